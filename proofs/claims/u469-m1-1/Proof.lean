import JvmDerived
import JvmDerived.Pilot.@@N@@Statement
import JvmDerived.Pilot.@@N@@Code
set_option linter.unusedVariables false
set_option linter.unusedSimpArgs false
namespace Jvm.RoadKit
open Sem ClassFile Op Lib Jvm.Stand Jvm.Free Jvm.LawKit
section New
variable {p : Program} {l : Launch} {e : Env} {R : Room} {s : State} {m : MethodId} {args : Array Value} {below : List Frame} {meth : Method} {c : Code} {T : State} {locs : List Loc} {cells slots : Nat}
theorem retI (X : Stand p l e R s m args below meth c T locs cells slots) (hx : p.tables.exec = Jvm.exec) {pc : Nat} {Ls : Array Slot} {z : Int32} {rest : List Value} (hret : meth.sig.returnType = some .int) (hd : decode c.code pc = .ok (.ireturn, 1)) {fs : List Frame}
    (hl : ∀ (f : JFrame) (acts : List Action), f.method = m → f.locked = none → f.entered = [] → (doReturn e (T.setTop f) acts (some (.int z))).1 = T.setFrames fs) : Steps p.tables e below (T.setTop (mkF m pc Ls (.int z :: rest))) (T.setFrames fs) := by
  have hm' : T.vm.method? m = some meth := X.method'
  have hn : narrow .int (.int z) = .int z := rfl
  show Steps p.tables e below (T.setTop { method := m, pc := pc, locals := Ls, stack := _ :: rest, locked := none }) _
  jvm_step X.here [X.here.top, hx, hd, hm', hret, hn]
  first | (intro acts; rw [hl _ acts rfl rfl rfl]) | rw [hl _ _ rfl rfl rfl]
  exact Steps.refl _
/-- a run from A that ends in an outcome with P -/
def Gl (tb : Tables) (e : Env) (below : List Frame) (P : Outcome → State → Prop) (A : State) : Prop := ∃ s₂ o, Steps tb e below A s₂ ∧ s₂.status = .running ∧ Ended s₂ below o ∧ P o s₂
theorem Gl.pre {tb : Tables} {e : Env} {below : List Frame} {P : Outcome → State → Prop} {A B : State} (h : ∀ t, Steps tb e below B t → Steps tb e below A t) (g : Gl tb e below P B) : Gl tb e below P A := by
  obtain ⟨s2, o, h1, r⟩ := g; exact ⟨s2, o, h _ h1, r⟩
theorem own_finI (X : Stand p l e R s m args below meth c T locs cells slots) (hx : p.tables.exec = Jvm.exec) (hlk : meth.locks = false) {pc : Nat} {Ls : Array Slot} {z : Int32} {rest : List Value} (hret : meth.sig.returnType = some .int) (hd : decode c.code pc = .ok (.ireturn, 1)) {Q : Option Value → Heap → List Loc → Prop} {C S : Nat}
    (hq : Q (some (.int z)) T.heap locs) (hc : cells ≤ C) (hs : slots ≤ S) : Gl p.tables e below (fun o U' => ∃ v L, o = .returned v ∧ Q v U'.heap L ∧ FrameEnd s o U' L C S) (T.setTop (mkF m pc Ls (.int z :: rest))) := by
  obtain ⟨fs, hr, hrun, hended, hW, hsame⟩ := X.leave (v := some (.int z)) (fun h => by rw [hret] at h; cases h) hlk
  exact ⟨_, _, retI X hx hret hd hr, hrun, hended, _, _, rfl, hq, ⟨_, rfl⟩, hW, hsame.mono hc hs⟩
theorem own_finN (X : Stand p l e R s m args below meth c T locs cells slots) (hx : p.tables.exec = Jvm.exec) (hlk : meth.locks = false) {pc : Nat} {Ls : Array Slot} {z z' : Int32} {rest : List Value} {t : FieldType} (hret : meth.sig.returnType = some t) (ht : t = .boolean ∨ t = .byte ∨ t = .char ∨ t = .short) (hz : nar t z = z') (hd : decode c.code pc = .ok (.ireturn, 1)) {Q : Option Value → Heap → List Loc → Prop} {C S : Nat}
    (hq : Q (some (.int z')) T.heap locs) (hc : cells ≤ C) (hs : slots ≤ S) : Gl p.tables e below (fun o U' => ∃ v L, o = .returned v ∧ Q v U'.heap L ∧ FrameEnd s o U' L C S) (T.setTop (mkF m pc Ls (.int z :: rest))) := by
  subst hz
  obtain ⟨fs, hr, hrun, hended, hW, hsame⟩ := X.leave (v := some (.int (nar t z))) (fun h => by rw [hret] at h; cases h) hlk
  exact ⟨_, _, retN X hx hret ht hd hr, hrun, hended, _, _, rfl, hq, ⟨_, rfl⟩, hW, hsame.mono hc hs⟩
theorem own_finV (X : Stand p l e R s m args below meth c T locs cells slots) (hx : p.tables.exec = Jvm.exec) (hlk : meth.locks = false) {pc : Nat} {Ls : Array Slot} (hret : meth.sig.returnType = none) (hd : decode c.code pc = .ok (.return_, 1)) {Q : Option Value → Heap → List Loc → Prop} {C S : Nat}
    (hq : Q none T.heap locs) (hc : cells ≤ C) (hs : slots ≤ S) : Gl p.tables e below (fun o U' => ∃ v L, o = .returned v ∧ Q v U'.heap L ∧ FrameEnd s o U' L C S) (T.setTop (mkF m pc Ls [])) := by
  obtain ⟨fs, hr, hrun, hended, hW, hsame⟩ := X.leave (v := none) (fun _ => rfl) hlk
  exact ⟨_, _, X.returnOut hx hret hd hr, hrun, hended, _, _, rfl, hq, ⟨_, rfl⟩, hW, hsame.mono hc hs⟩
theorem own_finA (X : Stand p l e R s m args below meth c T locs cells slots) (hx : p.tables.exec = Jvm.exec) (hlk : meth.locks = false) {pc : Nat} {Ls : Array Slot} {w : Value} {rest : List Value} {t : FieldType} (hret : meth.sig.returnType = some t) (hw : w.isRef = true) (ht : t.isReference = true) (hd : decode c.code pc = .ok (.areturn, 1)) {Q : Option Value → Heap → List Loc → Prop} {C S : Nat}
    (hq : Q (some w) T.heap locs) (hc : cells ≤ C) (hs : slots ≤ S) : Gl p.tables e below (fun o U' => ∃ v L, o = .returned v ∧ Q v U'.heap L ∧ FrameEnd s o U' L C S) (T.setTop (mkF m pc Ls (w :: rest))) := by
  obtain ⟨fs, hr, hrun, hended, hW, hsame⟩ := X.leave (v := some w) (fun h => by rw [hret] at h; cases h) hlk
  have hn : narrow t w = w := by rcases ref_cases hw with rfl | ⟨z, rfl⟩ <;> cases t <;> rfl
  exact ⟨_, _, retOut X hx hret hn (Or.inr (Or.inr (Or.inr (Or.inr ⟨rfl, ht, hw⟩)))) hd hr, hrun, hended, _, _, rfl, hq, ⟨_, rfl⟩, hW, hsame.mono hc hs⟩
/-- Java's >>> -/
def own_ushr (x y : Int32) : Int32 := (x.toUInt32 >>> (y &&& 31).toUInt32).toInt32
def own_ushrL (x : Int64) (y : Int32) : Int64 := (x.toUInt64 >>> (y &&& 0x3f).toInt64.toUInt64).toInt64
/-- 1 where P holds, else 0 -/
def own_pi (P : Prop) [Decidable P] : Int32 := if P then 1 else 0
theorem own_pi_t {P : Prop} [Decidable P] (h : P) : own_pi P = 1 := if_pos h
theorem own_pi_f {P : Prop} [Decidable P] (h : ¬ P) : own_pi P = 0 := if_neg h
theorem own_pi_nt {P : Prop} [Decidable P] (h : P) : own_pi (¬ P) = 0 := if_neg (fun q => q h)
theorem own_pi_nf {P : Prop} [Decidable P] (h : ¬ P) : own_pi (¬ P) = 1 := if_pos h
theorem own_pi0 {P : Prop} [Decidable P] : own_pi P = 0 ↔ ¬ P := by unfold own_pi; split <;> simp_all
theorem own_pi_eq {P Q : Prop} [Decidable P] [Decidable Q] (h : P ↔ Q) : own_pi P = own_pi Q := by unfold own_pi; simp [h]
theorem own_nar_pi {P : Prop} [i : Decidable P] : nar .boolean (@own_pi P i) = @own_pi P i := by unfold own_pi; split <;> decide
end New
/-- the array at a (of kind ty) holds the ints xs -/
def Bal (Z : State) (h : Heap) (a : Addr) (ty : FieldType) (xs : List Int32) : Prop := ∃ c : Cell, Arr Z h a c ty ∧ c.slots.size = xs.length ∧ ∀ i, i < xs.length → c.slots[i]? = some (.int (xs.getD i 0))
section Arrays
variable {Z : State} {h h' : Heap} {a b : Addr} {ty : FieldType} {xs : List Int32} {ws : List Addr}
theorem Bal.lt (F : Bal Z h a ty xs) : a < h.size := by obtain ⟨c, A, -⟩ := F; exact A.lt
theorem Bal.ext (F : Bal Z h a ty xs) (E : Ext h h') : Bal Z h' a ty xs := by obtain ⟨c, A, r⟩ := F; exact ⟨c, A.ext E, r⟩
theorem Bal.other {sl : Nat} {v : Value} (F : Bal Z h b ty xs) (W : Wr h h' a sl v) (q : b ≠ a) : Bal Z h' b ty xs := by obtain ⟨c, A, r⟩ := F; exact ⟨c, A.other W q, r⟩
theorem Bal.keep (F : Bal Z h a ty xs) (K : Keep h h' ws) (q : a ∉ ws) : Bal Z h' a ty xs := by obtain ⟨c, A, r⟩ := F; exact ⟨c, ⟨K.2.1 a c A.1 q, A.2⟩, r⟩
theorem Bal.new {k : ClassId} {z : Int32} {n : Nat} (A : Arr Z h a (newA k ty z) ty) (hz : z.toNatClampNeg = n) (hd : defaultValue ty = .int 0) : Bal Z h a ty (List.replicate n 0) := by
  subst hz
  refine ⟨_, A, by rw [sz_new, List.length_replicate], fun i hi => ?_⟩
  rw [List.length_replicate] at hi
  simp [newA, hd, hi, List.getD_eq_getElem?_getD]
theorem Bal.set {i : Nat} {v : Int32} (F : Bal Z h a ty xs) (W : Wr h h' a i (.int v)) (hi : i < xs.length) : Bal Z h' a ty (xs.set i v) := by
  obtain ⟨c, A, S, H⟩ := F
  refine ⟨_, A.same W, by rw [sz_set, S, List.length_set], fun k hk => ?_⟩
  rw [List.length_set] at hk
  show (c.slots.setIfInBounds i (.int v))[k]? = _
  rw [Array.getElem?_setIfInBounds, List.getD_eq_getElem?_getD, List.getElem?_set]
  by_cases q : i = k
  · subst q; simp [S, hk]
  · rw [if_neg q, if_neg q, ← List.getD_eq_getElem?_getD]; exact H k hk
theorem Bal.inb {c : Cell} {j : Int32} {i : Nat} (S : c.slots.size = xs.length) (h0 : ¬ j < 0) (hj : j.toNatClampNeg = i) (hi : i < xs.length) : ¬ (j < 0 ∨ c.slots.size ≤ j.toNatClampNeg) := by
  rintro (q | q)
  · exact h0 q
  · omega
variable {p : Program} {l : Launch} {e : Env} {R : Room} {s : State} {m : MethodId} {args : Array Value} {below : List Frame} {meth : Method} {c : Code} {T : State} {locs : List Loc} {cells slots : Nat}
theorem own_stB (X : Stand p l e R s m args below meth c T locs cells slots) (hx : p.tables.exec = Jvm.exec) (hZ : Z.Warmed39 s.vm) (eT : T.heap = h) (F : Bal Z h a .byte xs) {j x : Int32} {i : Nat} (h0 : ¬ j < 0) (hj : j.toNatClampNeg = i) (hi : i < xs.length) {g : JFrame} (hg : g.method = m) {rest : List Value} (hs : g.stack = .int x :: .int j :: .ref a :: rest) (hd : decode c.code g.pc = .ok (.bastore, 1)) :
    ∃ T' h', Stand p l e R s m args below meth c T' (locs ++ [⟨a, i⟩]) cells slots ∧ T'.heap = h' ∧ Wr h h' a i (.int (nar .byte x)) ∧ Bal Z h' a .byte (xs.set i (nar .byte x)) ∧ ∀ target, Steps p.tables e below (T'.setTop { g with pc := g.pc + 1, stack := rest }) target → Steps p.tables e below (T.setTop g) target := by
  have F' := F
  obtain ⟨cl, A, S, H⟩ := F
  obtain ⟨T', h', X', e', W, st⟩ := stB X hx hZ eT A (j := j) (Bal.inb S h0 hj hi) hg hs hd
  subst hj
  exact ⟨T', h', X', e', W, F'.set W hi, st⟩
theorem own_stC (X : Stand p l e R s m args below meth c T locs cells slots) (hx : p.tables.exec = Jvm.exec) (hZ : Z.Warmed39 s.vm) (eT : T.heap = h) (F : Bal Z h a .char xs) {j x : Int32} {i : Nat} (h0 : ¬ j < 0) (hj : j.toNatClampNeg = i) (hi : i < xs.length) {g : JFrame} (hg : g.method = m) {rest : List Value} (hs : g.stack = .int x :: .int j :: .ref a :: rest) (hd : decode c.code g.pc = .ok (.castore, 1)) :
    ∃ T' h', Stand p l e R s m args below meth c T' (locs ++ [⟨a, i⟩]) cells slots ∧ T'.heap = h' ∧ Wr h h' a i (.int (nar .char x)) ∧ Bal Z h' a .char (xs.set i (nar .char x)) ∧ ∀ target, Steps p.tables e below (T'.setTop { g with pc := g.pc + 1, stack := rest }) target → Steps p.tables e below (T.setTop g) target := by
  have F' := F
  obtain ⟨cl, A, S, H⟩ := F
  obtain ⟨T', h', X', e', W, st⟩ := stC X hx hZ eT A (j := j) (Bal.inb S h0 hj hi) hg hs hd
  subst hj
  exact ⟨T', h', X', e', W, F'.set W hi, st⟩
theorem own_ldB (X : Stand p l e R s m args below meth c T locs cells slots) (hx : p.tables.exec = Jvm.exec) (hZ : Z.Warmed39 s.vm) (eT : T.heap = h) (F : Bal Z h a .byte xs) {j : Int32} {i : Nat} (h0 : ¬ j < 0) (hj : j.toNatClampNeg = i) (hi : i < xs.length) {v : Int32} (hv : xs.getD i 0 = v) {g : JFrame} (hg : g.method = m) {rest : List Value} (hs : g.stack = .int j :: .ref a :: rest) (hd : decode c.code g.pc = .ok (.baload, 1)) (target : State)
    (k : Steps p.tables e below (T.setTop { g with pc := g.pc + 1, stack := .int v :: rest }) target) : Steps p.tables e below (T.setTop g) target := by
  obtain ⟨cl, A, S, H⟩ := F
  subst hv
  exact X.baloadBytes hx (j := j) (v := .int (xs.getD i 0)) (by rw [eT]; exact A.1) (State.isArrayOf_alike hZ.alike A.2.1) A.2.2 (Bal.inb S h0 hj hi) (by rw [hj]; exact H i hi) hg hs hd _ k
theorem own_ldC (X : Stand p l e R s m args below meth c T locs cells slots) (hx : p.tables.exec = Jvm.exec) (hZ : Z.Warmed39 s.vm) (eT : T.heap = h) (F : Bal Z h a .char xs) {j : Int32} {i : Nat} (h0 : ¬ j < 0) (hj : j.toNatClampNeg = i) (hi : i < xs.length) {v : Int32} (hv : xs.getD i 0 = v) {g : JFrame} (hg : g.method = m) {rest : List Value} (hs : g.stack = .int j :: .ref a :: rest) (hd : decode c.code g.pc = .ok (.caload, 1)) (target : State)
    (k : Steps p.tables e below (T.setTop { g with pc := g.pc + 1, stack := .int v :: rest }) target) : Steps p.tables e below (T.setTop g) target := by
  obtain ⟨cl, A, S, H⟩ := F
  subst hv
  exact X.caload hx (j := j) (v := .int (xs.getD i 0)) (by rw [eT]; exact A.1) (State.isArrayOf_alike hZ.alike A.2.1) A.2.2 (Bal.inb S h0 hj hi) (by rw [hj]; exact H i hi) hg hs hd _ k
theorem own_len (X : Stand p l e R s m args below meth c T locs cells slots) (hx : p.tables.exec = Jvm.exec) (hZ : Z.Warmed39 s.vm) (eT : T.heap = h) (F : Bal Z h a ty xs) {v : Int32} (hv : xs.length.toInt32 = v) {g : JFrame} (hg : g.method = m) {rest : List Value} (hs : g.stack = .ref a :: rest) (hd : decode c.code g.pc = .ok (.arraylength, 1)) (target : State)
    (k : Steps p.tables e below (T.setTop { g with pc := g.pc + 1, stack := .int v :: rest }) target) : Steps p.tables e below (T.setTop g) target := by
  obtain ⟨cl, A, S, H⟩ := F
  subst hv
  refine X.arraylength hx (by rw [eT]; exact A.1) (State.isArrayOf_alike hZ.alike A.2.1) hg hs hd _ ?_
  rw [S]; exact k
theorem own_balOf {k : ClassId} {z : Int32} (F : Arv Z h a k .byte z (xs.map Value.int) (.int 0)) (hz : z.toNatClampNeg = xs.length) : Bal Z h a .byte xs := by
  obtain ⟨c, A, -, S, -, H, -⟩ := F
  refine ⟨c, A, by rw [S, hz], fun i hi => ?_⟩
  have q := H i (by rw [S, hz]; exact hi)
  rw [q]
  simp [List.getD_eq_getElem?_getD, List.getElem?_map, List.getElem?_eq_getElem hi]
theorem own_arvC (F : Bal Z h a .char xs) (hf : ∀ x ∈ xs, fits .char (.int x) = true) (hl : xs.length < 2 ^ 31) : ∃ k, Arv Z h a k .char (Int32.ofNat xs.length) (xs.map Value.int) (.int 0) := by
  obtain ⟨c, A, S, H⟩ := F
  have hi : (Int32.ofNat xs.length).toInt = xs.length := Int32.toInt_ofNat_of_lt hl
  refine ⟨c.cls, c, A, rfl, ?_, ?_, ?_, ?_⟩
  · rw [S, Int32.toNatClampNeg, hi]; rfl
  · rw [Int32.lt_iff_toInt_lt, hi, show (0 : Int32).toInt = 0 from rfl]; omega
  · intro i hi'
    rw [S] at hi'
    rw [H i hi']
    simp [List.getD_eq_getElem?_getD, List.getElem?_map, List.getElem?_eq_getElem hi']
  · intro i hi'
    rw [S] at hi'
    have : (xs.map Value.int).getD i (.int 0) = .int xs[i] := by simp [List.getD_eq_getElem?_getD, List.getElem?_map, List.getElem?_eq_getElem hi']
    rw [this]; exact hf _ (List.getElem_mem hi')
theorem own_piN {P : Prop} [Decidable P] : (¬ own_pi P = 0) ↔ P := by unfold own_pi; split <;> simp_all
end Arrays
section Wide
variable {p : Program} {l : Launch} {e : Env} {R : Room} {s Z : State} {EL : List (String × Nat)} {vm0 : Vm} {k0 : Nat} {m : MethodId} {args : Array Value} {below : List Frame} {meth : Method} {c : Code} {T : State} {locs : List Loc} {cells slots : Nat}
theorem own_monoW {t : State} {o : Outcome} {L : List Loc} {k n k' n' : Nat} (h : ReturnedEndW s o t L k n) (hk : k ≤ k') (hn : n ≤ n') : ReturnedEndW s o t L k' n' := ⟨h.1, h.2.1, h.2.2.1, h.2.2.2.mono hk hn⟩
theorem own_finIW (X : Stand p l e R (s.setVm vm0) m args below meth c T locs cells slots) (hx : p.tables.exec = Jvm.exec) (hlk : meth.locks = false) (hS : s.Since vm0 k0) (hk : k0 ≤ T.heap.size) {pc : Nat} {Ls : Array Slot} {z : Int32} {rest : List Value} (hret : meth.sig.returnType = some .int) (hd : decode c.code pc = .ok (.ireturn, 1)) {Q : Option Value → Heap → List Loc → Prop} {C S : Nat}
    (hq : Q (some (.int z)) T.heap locs) (hC : CHr Z EL s.vm s.heap T.vm T.heap) (hc : cells ≤ C) (hs : slots ≤ S) : Gl p.tables e below (fun o U' => ∃ v L, o = .returned v ∧ Q v U'.heap L ∧ CHr Z EL s.vm s.heap U'.vm U'.heap ∧ ReturnedEndW s o U' L C S) (T.setTop (mkF m pc Ls (.int z :: rest))) := by
  obtain ⟨fs, hr, hrun, hended, hW⟩ := X.leaveW hS hk (v := some (.int z)) (fun h => by rw [hret] at h; cases h) hlk
  exact ⟨_, _, retI X hx hret hd hr, hrun, hended, _, _, rfl, hq, hC, own_monoW hW hc hs⟩
theorem own_finNW (X : Stand p l e R (s.setVm vm0) m args below meth c T locs cells slots) (hx : p.tables.exec = Jvm.exec) (hlk : meth.locks = false) (hS : s.Since vm0 k0) (hk : k0 ≤ T.heap.size) {pc : Nat} {Ls : Array Slot} {z z' : Int32} {rest : List Value} {t : FieldType} (hret : meth.sig.returnType = some t) (ht : t = .boolean ∨ t = .byte ∨ t = .char ∨ t = .short) (hz : nar t z = z') (hd : decode c.code pc = .ok (.ireturn, 1)) {Q : Option Value → Heap → List Loc → Prop} {C S : Nat}
    (hq : Q (some (.int z')) T.heap locs) (hC : CHr Z EL s.vm s.heap T.vm T.heap) (hc : cells ≤ C) (hs : slots ≤ S) : Gl p.tables e below (fun o U' => ∃ v L, o = .returned v ∧ Q v U'.heap L ∧ CHr Z EL s.vm s.heap U'.vm U'.heap ∧ ReturnedEndW s o U' L C S) (T.setTop (mkF m pc Ls (.int z :: rest))) := by
  subst hz
  obtain ⟨fs, hr, hrun, hended, hW⟩ := X.leaveW hS hk (v := some (.int (nar t z))) (fun h => by rw [hret] at h; cases h) hlk
  exact ⟨_, _, retN X hx hret ht hd hr, hrun, hended, _, _, rfl, hq, hC, own_monoW hW hc hs⟩
theorem own_finVW (X : Stand p l e R (s.setVm vm0) m args below meth c T locs cells slots) (hx : p.tables.exec = Jvm.exec) (hlk : meth.locks = false) (hS : s.Since vm0 k0) (hk : k0 ≤ T.heap.size) {pc : Nat} {Ls : Array Slot} (hret : meth.sig.returnType = none) (hd : decode c.code pc = .ok (.return_, 1)) {Q : Option Value → Heap → List Loc → Prop} {C S : Nat}
    (hq : Q none T.heap locs) (hC : CHr Z EL s.vm s.heap T.vm T.heap) (hc : cells ≤ C) (hs : slots ≤ S) : Gl p.tables e below (fun o U' => ∃ v L, o = .returned v ∧ Q v U'.heap L ∧ CHr Z EL s.vm s.heap U'.vm U'.heap ∧ ReturnedEndW s o U' L C S) (T.setTop (mkF m pc Ls [])) := by
  obtain ⟨fs, hr, hrun, hended, hW⟩ := X.leaveW hS hk (v := none) (fun _ => rfl) hlk
  exact ⟨_, _, X.returnOut hx hret hd hr, hrun, hended, _, _, rfl, hq, hC, own_monoW hW hc hs⟩
theorem own_finAW (X : Stand p l e R (s.setVm vm0) m args below meth c T locs cells slots) (hx : p.tables.exec = Jvm.exec) (hlk : meth.locks = false) (hS : s.Since vm0 k0) (hk : k0 ≤ T.heap.size) {pc : Nat} {Ls : Array Slot} {w : Value} {rest : List Value} {t : FieldType} (hret : meth.sig.returnType = some t) (hw : w.isRef = true) (ht : t.isReference = true) (hd : decode c.code pc = .ok (.areturn, 1)) {Q : Option Value → Heap → List Loc → Prop} {C S : Nat}
    (hq : Q (some w) T.heap locs) (hC : CHr Z EL s.vm s.heap T.vm T.heap) (hc : cells ≤ C) (hs : slots ≤ S) : Gl p.tables e below (fun o U' => ∃ v L, o = .returned v ∧ Q v U'.heap L ∧ CHr Z EL s.vm s.heap U'.vm U'.heap ∧ ReturnedEndW s o U' L C S) (T.setTop (mkF m pc Ls (w :: rest))) := by
  obtain ⟨fs, hr, hrun, hended, hW⟩ := X.leaveW hS hk (v := some w) (fun h => by rw [hret] at h; cases h) hlk
  have hn : narrow t w = w := by rcases ref_cases hw with rfl | ⟨z, rfl⟩ <;> cases t <;> rfl
  exact ⟨_, _, retOut X hx hret hn (Or.inr (Or.inr (Or.inr (Or.inr ⟨rfl, ht, hw⟩)))) hd hr, hrun, hended, _, _, rfl, hq, hC, own_monoW hW hc hs⟩
/-- a callee that keeps the constants' invariant; SL: objects that it may write, none of them a constant's -/
theorem own_backH {a0 : Array Value} {h : Heap} {y : MethodName} {bytes : ByteArray} {maxL : Nat} {ret : Option FieldType} {rm : Room} {len W : Nat} {as' : Array Value} {Q : Option Value → Heap → List Loc → Prop} {SL : List Addr}
    (hM : MetFree l y (head1 [Cond.code y bytes maxL ret] rm) (fun a U => a = as' ∧ Z.Warmed39 U.vm ∧ U.heap = h ∧ CHv Z EL U.vm h ∧ ∀ x ∈ SL, Safe Z EL U.vm h x) (fun _ _ _ _ _ => True) (fun _ U o U' => ∃ v L, o = .returned v ∧ Q v U'.heap L ∧ CHr Z EL U.vm U.heap U'.vm U'.heap ∧ ReturnedEndW U o U' L rm.cells rm.slots))
    (hZ : Z.Warmed39 vm0) (wc : (Cond.code y bytes maxL ret).before a0 Z = true) (wz : (Cond.initialized y.cls).before a0 Z = true) (hf : rm.frames + 1 ≤ R.frames) (hl : W + (maxL + 11) + rm.locals ≤ R.locals) (hEL : EW Z a0 EL) (H : CHv Z EL vm0 h) (hSL : ∀ x ∈ SL, x < h.size ∧ Safe Z EL vm0 h x) :
    BackS l R p e below (s.setVm vm0) args y len W (fun A a => a = as' ∧ A.U.heap = h ∧ A.cells + rm.cells ≤ R.cells ∧ A.slots + rm.slots ≤ R.slots)
      (fun A _ v B => ∃ L, Q v B.U.heap L ∧ B.locs = A.locs ++ L ∧ B.cells = A.cells + rm.cells ∧ B.slots = A.slots + rm.slots ∧ CHr Z EL vm0 h B.U.vm B.U.heap) := by
  refine BackS.of_freeW (bytes := bytes) (maxL := maxL) (ret := ret) (E := fun _ first o t L k n => k = rm.cells ∧ n = rm.slots ∧ (∃ v, o = .returned v ∧ Q v t.heap L) ∧ CHr Z EL first.vm first.heap t.vm t.heap) hM hf hl ?_ ?_ (fun _ _ _ _ _ _ _ _ _ => trivial) (fun _ _ _ _ ⟨v, L, h1, h2, h3, h4⟩ => ⟨L, _, _, h4, rfl, rfl, ⟨v, h1, h2⟩, h3⟩) ?_
  · intro m meth c A a Y hp
    have hU : Z.Warmed39 A.U.vm := wtrans (s := s.setVm vm0) hZ Y.warmed
    refine ⟨?_, mv hU wc, mv hU wz, hp.2.2.1, hp.2.2.2⟩
    show (Cond.and _ .tt).before a A.U = true
    rw [Cond.before_and, mv hU wc]; rfl
  · intro m meth c A a g mk Y hp
    have q := CHv.at Y hZ hEL H
    exact ⟨hp.1, wtrans (s := s.setVm vm0) hZ Y.warmed, hp.2.1, q.1, fun x hx => q.safe (hSL x hx).1 (hSL x hx).2⟩
  · rintro m meth c A a g mk v t L k n Y hp _ _ ⟨e1, e2, ⟨v', e3, e4⟩, e5⟩
    cases e3; subst e1 e2
    refine ⟨L, e4, rfl, rfl, rfl, (CHv.at Y hZ hEL H).trans ?_⟩
    rw [← hp.2.1]; exact e5
end Wide
theorem own_fits_pi {P : Prop} [i : Decidable P] : fits .boolean (.int (@own_pi P i)) = true := by unfold own_pi; split <;> rfl
/-- the array at a, of the class k over C, holds the values vs -/
def Ral (Z : State) (h : Heap) (a : Addr) (k : ClassId) (C : String) (vs : List Value) : Prop := ∃ c : Cell, Arr Z h a c (.object C) ∧ c.cls = k ∧ c.slots.size = vs.length ∧ ∀ i, i < vs.length → c.slots[i]? = some (vs.getD i .null)
section Refs
variable {Z : State} {h h' : Heap} {a b : Addr} {k : ClassId} {C : String} {vs : List Value} {ws : List Addr}
theorem Ral.lt (F : Ral Z h a k C vs) : a < h.size := by obtain ⟨c, A, -⟩ := F; exact A.lt
theorem Ral.ext (F : Ral Z h a k C vs) (E : Ext h h') : Ral Z h' a k C vs := by obtain ⟨c, A, r⟩ := F; exact ⟨c, A.ext E, r⟩
theorem Ral.other {sl : Nat} {v : Value} (F : Ral Z h b k C vs) (W : Wr h h' a sl v) (q : b ≠ a) : Ral Z h' b k C vs := by obtain ⟨c, A, r⟩ := F; exact ⟨c, A.other W q, r⟩
theorem Ral.keep (F : Ral Z h a k C vs) (K : Keep h h' ws) (q : a ∉ ws) : Ral Z h' a k C vs := by obtain ⟨c, A, r⟩ := F; exact ⟨c, ⟨K.2.1 a c A.1 q, A.2⟩, r⟩
theorem Ral.new {z : Int32} {n : Nat} (A : Arr Z h a (newA k (.object C) z) (.object C)) (hz : z.toNatClampNeg = n) : Ral Z h a k C (List.replicate n .null) := by
  subst hz
  refine ⟨_, A, rfl, by rw [sz_new, List.length_replicate], fun i hi => ?_⟩
  rw [List.length_replicate] at hi
  simp [newA, defaultValue, hi, List.getD_eq_getElem?_getD]
theorem Ral.set {i : Nat} {v : Value} (F : Ral Z h a k C vs) (W : Wr h h' a i v) (hi : i < vs.length) : Ral Z h' a k C (vs.set i v) := by
  obtain ⟨c, A, q0, S, H⟩ := F
  refine ⟨_, A.same W, q0, by rw [sz_set, S, List.length_set], fun k hk => ?_⟩
  rw [List.length_set] at hk
  show (c.slots.setIfInBounds i v)[k]? = _
  rw [Array.getElem?_setIfInBounds, List.getD_eq_getElem?_getD, List.getElem?_set]
  by_cases q : i = k
  · subst q; simp [S, hk]
  · rw [if_neg q, if_neg q, ← List.getD_eq_getElem?_getD]; exact H k hk
variable {p : Program} {l : Launch} {e : Env} {R : Room} {s : State} {m : MethodId} {args : Array Value} {below : List Frame} {meth : Method} {c : Code} {T : State} {locs : List Loc} {cells slots : Nat}
theorem own_stR (X : Stand p l e R s m args below meth c T locs cells slots) (hx : p.tables.exec = Jvm.exec) (hZ : Z.Warmed39 s.vm) (eT : T.heap = h) (F : Ral Z h a k C vs) (O : Ovr Z k C) {y : Addr} (I : Ins Z h y C true) {j : Int32} {i : Nat} (h0 : ¬ j < 0) (hj : j.toNatClampNeg = i) (hi : i < vs.length) {g : JFrame} (hg : g.method = m) {rest : List Value} (hs : g.stack = .ref y :: .int j :: .ref a :: rest) (hd : decode c.code g.pc = .ok (.aastore, 1)) :
    ∃ T' h', Stand p l e R s m args below meth c T' (locs ++ [⟨a, i⟩]) cells slots ∧ T'.heap = h' ∧ Wr h h' a i (.ref y) ∧ Ral Z h' a k C (vs.set i (.ref y)) ∧ ∀ target, Steps p.tables e below (T'.setTop { g with pc := g.pc + 1, stack := rest }) target → Steps p.tables e below (T.setTop g) target := by
  have F' := F
  obtain ⟨cl, A, q0, S, H⟩ := F
  have hin : ¬ (j < 0 ∨ cl.slots.size ≤ j.toNatClampNeg) := by
    rintro (q | q)
    · exact h0 q
    · omega
  subst q0
  obtain ⟨T', h', X', e', W, st⟩ := stR X hx hZ eT A (j := j) hin rfl (Sto.of A O I) hg hs hd
  subst hj
  exact ⟨T', h', X', e', W, F'.set W hi, st⟩
theorem own_ldR (X : Stand p l e R s m args below meth c T locs cells slots) (hx : p.tables.exec = Jvm.exec) (hZ : Z.Warmed39 s.vm) (eT : T.heap = h) (F : Ral Z h a k C vs) {j : Int32} {i : Nat} (h0 : ¬ j < 0) (hj : j.toNatClampNeg = i) (hi : i < vs.length) {v : Value} (hv : vs.getD i .null = v) {g : JFrame} (hg : g.method = m) {rest : List Value} (hs : g.stack = .int j :: .ref a :: rest) (hd : decode c.code g.pc = .ok (.aaload, 1)) (target : State)
    (kk : Steps p.tables e below (T.setTop { g with pc := g.pc + 1, stack := v :: rest }) target) : Steps p.tables e below (T.setTop g) target := by
  obtain ⟨cl, A, q0, S, H⟩ := F
  have hin : ¬ (j < 0 ∨ cl.slots.size ≤ j.toNatClampNeg) := by
    rintro (q | q)
    · exact h0 q
    · omega
  subst hv
  exact X.aaload hx (j := j) (v := vs.getD i .null) (by rw [eT]; exact A.1) (State.isArrayOf_alike hZ.alike A.2.1) rfl A.2.2 hin (by rw [hj]; exact H i hi) hg hs hd _ kk
end Refs
section Starts
variable {s : State} {args : Array Value} {t : Term} {a : Addr} {C n d : String}
theorem own_fldI {z : Int32} (ev : t.eval args s none [] s = some (.ref a)) (h : (Cond.eq (Term.field t C n d) (Term.int z)).value args s none s [] = some true) : Fld s s.heap a C n d (.int z) := by
  refine Fld.start ?_
  rw [← fld_at (args := args) (first := s) (o := none) (idx := []) ev]
  cases hf : (Term.field t C n d).eval args s none [] s with
  | none => simp [Cond.value, hf] at h
  | some x =>
    have hz : (Term.int z).eval args s none [] s = some (.int z) := rfl
    cases x <;> simp [Cond.value, hf, hz] at h
    rw [h]
theorem own_fldN (ev : t.eval args s none [] s = some (.ref a)) (h : (Cond.eq (Term.field t C n d) Term.null).value args s none s [] = some true) : Fld s s.heap a C n d .null := by
  refine Fld.start ?_
  rw [← fld_at (args := args) (first := s) (o := none) (idx := []) ev]
  exact null_v h
theorem own_fldE {K : String} (ev : t.eval args s none [] s = some (.ref a)) (h : (Cond.exactly (Term.field t C n d) K).value args s none s [] = some true) : ∃ y, Fld s s.heap a C n d (.ref y) := by
  obtain ⟨y, hy⟩ := exa_v h
  refine ⟨y, Fld.start ?_⟩
  rw [← fld_at (args := args) (first := s) (o := none) (idx := []) ev]
  exact hy
theorem own_fldS {u : Term} {b : Addr} (ev : t.eval args s none [] s = some (.ref a)) (eu : u.eval args s none [] s = some (.ref b)) (h : (Cond.eq (Term.field t C n d) u).value args s none s [] = some true) : Fld s s.heap a C n d (.ref b) := by
  refine Fld.start ?_
  rw [← fld_at (args := args) (first := s) (o := none) (idx := []) ev]
  cases hf : (Term.field t C n d).eval args s none [] s with
  | none => simp [Cond.value, hf] at h
  | some x =>
    cases x <;> simp [Cond.value, hf, eu] at h
    rw [h]
theorem own_statI {t : Term} {z : Int32} (h : (Cond.eq t (Term.int z)).value args s none s [] = some true) : t.eval args s none [] s = some (.int z) := by
  cases hf : t.eval args s none [] s with
  | none => simp [Cond.value, hf] at h
  | some x =>
    have hz : (Term.int z).eval args s none [] s = some (.int z) := rfl
    cases x <;> simp [Cond.value, hf, hz] at h
    rw [h]
theorem own_empty {cl : Cell} {ty : FieldType} (ev : t.eval args s none [] s = some (.ref a)) (A : Arr s s.heap a cl ty) (h : (Cond.eq (Term.length t) (Term.int 0)).value args s none s [] = some true) : Bal s s.heap a ty [] := by
  have ha : s.arrayAt? a = some cl := A.fin (Vm.Alike.refl _)
  have hsz : cl.slots.size = 0 := by
    by_cases hl : cl.slots.size < 2 ^ 31
    · have hv := len_f (args := args) (first := s) (o := none) (idx := []) ev ha hl
      have hz : (Term.int 0).eval args s none [] s = some (.int 0) := rfl
      simp only [Cond.value, hv, hz] at h
      have q := len_toInt hl
      have q2 : cl.slots.size.toInt32 = 0 := by simpa using h
      rw [q2] at q
      have : (0 : Int32).toInt = 0 := rfl
      omega
    · exfalso
      cases hf : (Term.length t).eval args s none [] s with
      | none => simp [Cond.value, hf] at h
      | some x => simp [Term.eval, ev, ha, hl] at hf
  exact ⟨cl, A, hsz, fun i hi => absurd hi (Nat.not_lt_zero i)⟩
end Starts
end Jvm.RoadKit
namespace Jvm.Pilot.@@N@@
open Jvm Jvm.ClassFile Sem Op Lib Jvm.Free Jvm.Stand Jvm.LawKit Jvm.RoadKit Bundle Jvm.Pilot.@@N@@.Jvm.D
def own_EL : List (String × Nat) := consts_1
theorem own_wS {a0 : Array Value} {Z : State} (hw : ∀ d ∈ tables_1, d.before a0 Z = true) : ∀ a ∈ Bundle.stringAtoms, a.before a0 Z = true := by
  intro a ha
  simp only [Bundle.stringAtoms, List.mem_cons, List.not_mem_nil, or_false] at ha
  rcases ha with rfl | rfl | rfl | rfl | rfl | rfl | rfl
  · exact hw _ (List.mem_of_getElem? (i := 6) rfl)
  · exact hw _ (List.mem_of_getElem? (i := 5) rfl)
  · exact hw _ (List.mem_of_getElem? (i := 19) rfl)
  · exact hw _ (List.mem_of_getElem? (i := 20) rfl)
  · exact hw _ (List.mem_of_getElem? (i := 21) rfl)
  · exact hw _ (List.mem_of_getElem? (i := 22) rfl)
  · exact hw _ (List.mem_of_getElem? (i := 23) rfl)
theorem own_chr (c : Int32) (h0 : 0 ≤ c.toInt) (h1 : c.toInt < 65536) : nar .char c = c := by
  show c.toUInt32.toUInt16.toUInt32.toInt32 = c
  apply Int32.toInt_inj.mp
  have := c_i2c c
  omega
theorem own_nb (x : Int32) : (nar .byte (x.toInt8.toInt32)).toInt % 256 = x.toInt % 256 := by
  show ((x.toInt8.toInt32).toInt8.toInt32).toInt % 256 = _
  have a := c_i2b x; have b := c_i2b (x.toInt8.toInt32)
  omega
theorem own_255 (x : Int32) : (x &&& (255 : Int32)).toInt = x.toInt % 256 := c_mask x 255 8 (by decide) (by decide)
theorem own_s0 (x : Int32) : x <<< ((0 : Int32) &&& 31) = x := by
  apply Int32.toInt_inj.mp
  have a := c_ishl x 0 0 (by decide); have b := rng32 x; have c := rng32 (x <<< ((0 : Int32) &&& 31))
  simp only [Nat.pow_zero, Int.ofNat_one, Int.natCast_one, Int.mul_one] at a
  omega
theorem own_s0r (x : Int32) : x >>> ((0 : Int32) &&& 31) = x := by
  apply Int32.toInt_inj.mp
  rw [c_ishr x 0 0 (by decide)]; simp
theorem own_gc (c : Int32) (h0 : 0 ≤ c.toInt) (h1 : c.toInt < 65536) : (nar .char (((((nar .byte ((c >>> ((0 : Int32) &&& 31)).toInt8.toInt32)) &&& (255 : Int32)) <<< ((0 : Int32) &&& 31)) ||| (((nar .byte ((c >>> ((8 : Int32) &&& 31)).toInt8.toInt32)) &&& (255 : Int32)) <<< ((8 : Int32) &&& 31))).toUInt32.toUInt16.toUInt32.toInt32)) = c := by
  have a := own_nb (c >>> ((0 : Int32) &&& 31))
  have b := own_nb (c >>> ((8 : Int32) &&& 31))
  rw [own_s0r] at a
  have b2 := c_ishr c 8 8 (by decide)
  have e1 := own_255 (nar .byte ((c >>> ((0 : Int32) &&& 31)).toInt8.toInt32))
  have e2 := own_255 (nar .byte ((c >>> ((8 : Int32) &&& 31)).toInt8.toInt32))
  have e3 := c_ishl ((nar .byte ((c >>> ((8 : Int32) &&& 31)).toInt8.toInt32)) &&& (255 : Int32)) 8 8 (by decide)
  have e4 := c_or (((nar .byte ((c >>> ((8 : Int32) &&& 31)).toInt8.toInt32)) &&& (255 : Int32)) <<< ((8 : Int32) &&& 31)) ((nar .byte ((c >>> ((0 : Int32) &&& 31)).toInt8.toInt32)) &&& (255 : Int32)) 8 (by decide) 256 (by decide)
  have r1 := rng32 (((nar .byte ((c >>> ((8 : Int32) &&& 31)).toInt8.toInt32)) &&& (255 : Int32)) <<< ((8 : Int32) &&& 31))
  have r2 := rng32 ((((nar .byte ((c >>> ((8 : Int32) &&& 31)).toInt8.toInt32)) &&& (255 : Int32)) <<< ((8 : Int32) &&& 31)) ||| ((nar .byte ((c >>> ((0 : Int32) &&& 31)).toInt8.toInt32)) &&& (255 : Int32)))
  have key : (((nar .byte ((c >>> ((0 : Int32) &&& 31)).toInt8.toInt32)) &&& (255 : Int32)) <<< ((0 : Int32) &&& 31)) ||| (((nar .byte ((c >>> ((8 : Int32) &&& 31)).toInt8.toInt32)) &&& (255 : Int32)) <<< ((8 : Int32) &&& 31)) = c := by
    rw [own_s0, Int32.or_comm]
    apply Int32.toInt_inj.mp
    rw [own_s0r] at *
    omega
  rw [key]
  have q := own_chr c h0 h1
  have q' : c.toUInt32.toUInt16.toUInt32.toInt32 = c := q
  rw [q', q]
theorem own_cr (x : Int32) : 0 ≤ (nar .char (x.toUInt32.toUInt16.toUInt32.toInt32)).toInt ∧ (nar .char (x.toUInt32.toUInt16.toUInt32.toInt32)).toInt < 65536 := by
  have := c_i2c x.toUInt32.toUInt16.toUInt32.toInt32
  exact ⟨this.2.1, this.2.2⟩
theorem own_n3 (f : Int32) : (own_ushr f (2 : Int32)) &&& (3 : Int32) = 0 ∨ (own_ushr f (2 : Int32)) &&& (3 : Int32) = 1 ∨ (own_ushr f (2 : Int32)) &&& (3 : Int32) = 2 ∨ (own_ushr f (2 : Int32)) &&& (3 : Int32) = 3 := by
  have e := c_mask (own_ushr f (2 : Int32)) 3 2 (by decide) (by decide)
  have a0 : (0 : Int32).toInt = 0 := rfl
  have a1 : (1 : Int32).toInt = 1 := rfl
  have a2 : (2 : Int32).toInt = 2 := rfl
  have a3 : (3 : Int32).toInt = 3 := rfl
  simp only [← Int32.toInt_inj, a0, a1, a2, a3]
  omega
theorem own_last3 (p : Int32) (hp : p = 0 ∨ p = 1 ∨ p = 2 ∨ p = 3) (h0 : ¬ p = 0) (h1 : ¬ p = 1) (h2 : ¬ p = 2) : p = 3 := by
  rcases hp with h | h | h | h
  · exact absurd h h0
  · exact absurd h h1
  · exact absurd h h2
  · exact h
theorem own_ate1 (pos n : Int32) : ((¬ ((1 : Int32) = (0 : Int32)) ∧ pos = (0 : Int32)) ∨ ((1 : Int32) = (0 : Int32) ∧ pos = n)) ↔ pos = (0 : Int32) := by
  have h : ¬ ((1 : Int32) = (0 : Int32)) := by decide
  simp [h]
theorem own_ate0 (pos n : Int32) : ((¬ ((0 : Int32) = (0 : Int32)) ∧ pos = (0 : Int32)) ∨ ((0 : Int32) = (0 : Int32) ∧ pos = n)) ↔ pos = n := by simp
theorem pd_0 : parseMethodDescriptor "(I)I" = some ⟨[.int], some .int⟩ := by decide +kernel
theorem pd_1 : parseMethodDescriptor "(I)[B" = some ⟨[.int], some (.array .byte)⟩ := by decide +kernel
theorem pd_2 : parseMethodDescriptor "([BII)V" = some ⟨[(.array .byte), .int, .int], none⟩ := by decide +kernel
theorem pd_3 : parseMethodDescriptor "([CI[BII)I" = some ⟨[(.array .char), .int, (.array .byte), .int, .int], some .int⟩ := by decide +kernel
theorem pd_4 : parseMethodDescriptor "([CII)[B" = some ⟨[(.array .char), .int, .int], some (.array .byte)⟩ := by decide +kernel
theorem pd_5 : parseMethodDescriptor "([BI)C" = some ⟨[(.array .byte), .int], some .char⟩ := by decide +kernel
theorem pd_6 : parseMethodDescriptor "([BI)B" = some ⟨[(.array .byte), .int], some .byte⟩ := by decide +kernel
theorem pd_7 : parseMethodDescriptor "([CIILjava/lang/Void;)V" = some ⟨[(.array .char), .int, .int, (.object "java/lang/Void")], none⟩ := by decide +kernel
theorem pd_8 : parseMethodDescriptor "()B" = some ⟨[], some .byte⟩ := by decide +kernel
theorem pd_9 : parseMethodDescriptor "([C)V" = some ⟨[(.array .char)], none⟩ := by decide +kernel
theorem pd_10 : parseMethodDescriptor "()I" = some ⟨[], some .int⟩ := by decide +kernel
theorem pd_11 : parseMethodDescriptor "(IJ)Ljava/lang/String;" = some ⟨[.int, .long], some (.object "java/lang/String")⟩ := by decide +kernel
theorem pd_12 : parseMethodDescriptor "(Ljava/lang/String;J)V" = some ⟨[(.object "java/lang/String"), .long], none⟩ := by decide +kernel
theorem pd_13 : parseMethodDescriptor "(IZ)Z" = some ⟨[.int, .boolean], some .boolean⟩ := by decide +kernel
theorem d10_0 : decode jdk_52_method_21_code 0 = .ok (.iconst 0, 1) := by decide +kernel
theorem d10_1 : decode jdk_52_method_21_code 1 = .ok (.istore 5, 2) := by decide +kernel
theorem d10_3 : decode jdk_52_method_21_code 3 = .ok (.iload 5, 2) := by decide +kernel
theorem d10_5 : decode jdk_52_method_21_code 5 = .ok (.iload 4, 2) := by decide +kernel
theorem d10_7 : decode jdk_52_method_21_code 7 = .ok (.if_icmp .ge 37, 3) := by decide +kernel
theorem d10_10 : decode jdk_52_method_21_code 10 = .ok (.aload_n 0, 1) := by decide +kernel
theorem d10_11 : decode jdk_52_method_21_code 11 = .ok (.iload_n 1, 1) := by decide +kernel
theorem d10_12 : decode jdk_52_method_21_code 12 = .ok (.caload, 1) := by decide +kernel
theorem d10_13 : decode jdk_52_method_21_code 13 = .ok (.istore 6, 2) := by decide +kernel
theorem d10_15 : decode jdk_52_method_21_code 15 = .ok (.iload 6, 2) := by decide +kernel
theorem d10_17 : decode jdk_52_method_21_code 17 = .ok (.sipush 255, 3) := by decide +kernel
theorem d10_20 : decode jdk_52_method_21_code 20 = .ok (.if_icmp .le 6, 3) := by decide +kernel
theorem d10_23 : decode jdk_52_method_21_code 23 = .ok (.iload 5, 2) := by decide +kernel
theorem d10_25 : decode jdk_52_method_21_code 25 = .ok (.ireturn, 1) := by decide +kernel
theorem d10_26 : decode jdk_52_method_21_code 26 = .ok (.aload_n 2, 1) := by decide +kernel
theorem d10_27 : decode jdk_52_method_21_code 27 = .ok (.iload_n 3, 1) := by decide +kernel
theorem d10_28 : decode jdk_52_method_21_code 28 = .ok (.iload 6, 2) := by decide +kernel
theorem d10_30 : decode jdk_52_method_21_code 30 = .ok (.i2b, 1) := by decide +kernel
theorem d10_31 : decode jdk_52_method_21_code 31 = .ok (.bastore, 1) := by decide +kernel
theorem d10_32 : decode jdk_52_method_21_code 32 = .ok (.iinc 1 1, 3) := by decide +kernel
theorem d10_35 : decode jdk_52_method_21_code 35 = .ok (.iinc 3 1, 3) := by decide +kernel
theorem d10_38 : decode jdk_52_method_21_code 38 = .ok (.iinc 5 1, 3) := by decide +kernel
theorem d10_41 : decode jdk_52_method_21_code 41 = .ok (.goto (-38), 3) := by decide +kernel
theorem d10_44 : decode jdk_52_method_21_code 44 = .ok (.iload 4, 2) := by decide +kernel
theorem d10_46 : decode jdk_52_method_21_code 46 = .ok (.ireturn, 1) := by decide +kernel
theorem pn_10 : plainName "java/lang/StringUTF16" = true := by first | (simp [plainName, overriddenIn]; done) | decide +kernel
theorem ef_cz1_0 (m : MethodId) (a1 : Addr) (a2 : Addr) (c0 : Int32) : entryFrame m #[(.ref a1), (.int (0 : Int32)), (.ref a2), (.int (0 : Int32)), (.int (1 : Int32))] 7 = mkF m 0 #[.val (.ref a1), .val (.int (0 : Int32)), .val (.ref a2), .val (.int (0 : Int32)), .val (.int (1 : Int32)), .unset, .unset] [] := by first | (simp [entryFrame, mkF, argsToLocals, Value.category]; done) | rfl
def Qcz1_0 (Z : State) (a1 : Addr) (a2 : Addr) (c0 : Int32) (h0 : Heap) (n0 : Nat) (v : Option Value) (h : Heap) (L : List Loc) : Prop := v = some (.int (0 : Int32)) ∧ Fr n0 L ∧ Keep h0 h [a2] ∧ ∃ ys : List Int32, ys.length = 1 ∧ Bal Z h a2 .byte ys
set_option maxRecDepth 65536 in
set_option maxHeartbeats 40000000 in
theorem rmcz1_0 (l : Launch) (Z : State) (a0 : Array Value) (hw : ∀ d ∈ tables_1, d.before a0 Z = true) (ws : List Jvm.Cond) (a1 : Addr) (a2 : Addr) (c0 : Int32) (h0 : Heap) (n0 : Nat) (Z0 : n0 ≤ h0.size) (V_a1 : Bal Z h0 a1 .char [c0]) (V_a2 : Bal Z h0 a2 .byte [(0 : Int32)]) (g_a2 : n0 ≤ a2) (own_ne_a1_a2 : a1 ≠ a2) (own_ne_a2_a1 : a2 ≠ a1) (hc0 : (255 : Int32) < c0) :
    MetFree l (⟨"java/lang/StringUTF16", "compress", "([CI[BII)I"⟩ : MethodName) (head1 (Jvm.Cond.code (⟨"java/lang/StringUTF16", "compress", "([CI[BII)I"⟩ : MethodName) jdk_52_method_21_code 7 (some .int) :: ws) ({ frames := 0, cells := 0, slots := 0, locals := 0 } : Room)) (fun a U => a = #[(.ref a1), (.int (0 : Int32)), (.ref a2), (.int (0 : Int32)), (.int (1 : Int32))] ∧ Z.Warmed39 U.vm ∧ U.heap = h0) (fun _ _ _ _ _ => True) (fun _ U o U' => ∃ v L, o = .returned v ∧ Qcz1_0 Z a1 a2 c0 h0 n0 v U'.heap L ∧ FrameEnd U o U' L ({ frames := 0, cells := 0, slots := 0, locals := 0 } : Room).cells ({ frames := 0, cells := 0, slots := 0, locals := 0 } : Room).slots) := by
  refine MetFree.of_bodySF (plainFor_of_name pn_10) hisR ?_
  intro p e s m args below meth c s₁ Bd hml0 hP hK
  obtain ⟨rfl, hZ, hh⟩ := hP
  have hx := Bd.exec
  have hby := Bd.bytes
  have hlk : meth.locks = false := BodyLoose.notSynchronized Bd
  have hml : c.maxLocals = 7 := hml0
  have hown : s.vm.findClass "java/lang/StringUTF16" = some m.cls := findClass_of_methodNamed Bd.named
  have hnm := (name_of_methodNamed Bd.named Bd.method).1
  have X0 : Stand p l e ({ frames := 0, cells := 0, slots := 0, locals := 0 } : Room) s m #[(.ref a1), (.int (0 : Int32)), (.ref a2), (.int (0 : Int32)), (.int (1 : Int32))] below meth c s₁ [] 0 0 := Stand.of_body Bd
  have e0 : s₁.heap = h0 := by rw [← hh, Bd.state]; rfl
  have N0 := Fr.nil n0
  show Gl p.tables e below (fun (o : Outcome) (U' : State) => ∃ v L, o = .returned v ∧ Qcz1_0 Z a1 a2 c0 h0 n0 v U'.heap L ∧ FrameEnd s o U' L ({ frames := 0, cells := 0, slots := 0, locals := 0 } : Room).cells ({ frames := 0, cells := 0, slots := 0, locals := 0 } : Room).slots) _
  refine Gl.pre (fun t k => castTop (ef_cz1_0 m a1 a2 c0) k) ?_
  obtain ⟨PP, hPP⟩ : ∃ P : Outcome → State → Prop, P = (fun (o : Outcome) (U' : State) => ∃ v L, o = .returned v ∧ Qcz1_0 Z a1 a2 c0 h0 n0 v U'.heap L ∧ FrameEnd s o U' L ({ frames := 0, cells := 0, slots := 0, locals := 0 } : Room).cells ({ frames := 0, cells := 0, slots := 0, locals := 0 } : Room).slots) := ⟨_, rfl⟩
  rw [← hPP]
  have K0 : Keep h0 h0 [a2] := Keep.refl h0 _
  show Gl p.tables e below PP (s₁.setTop (mkF m 0 #[.val (.ref a1), .val (.int (0 : Int32)), .val (.ref a2), .val (.int (0 : Int32)), .val (.int (1 : Int32)), .unset, .unset] []))
  refine Gl.pre (fun _ k => XS.iconst X0.here hx rfl (hb hby d10_0) k) ?_
  show Gl p.tables e below PP (s₁.setTop (mkF m 1 #[.val (.ref a1), .val (.int (0 : Int32)), .val (.ref a2), .val (.int (0 : Int32)), .val (.int (1 : Int32)), .unset, .unset] [(.int (0 : Int32))]))
  refine Gl.pre (fun _ k => XS.istore X0.here hx rfl (hb hby d10_1) rfl (l' := #[.val (.ref a1), .val (.int (0 : Int32)), .val (.ref a2), .val (.int (0 : Int32)), .val (.int (1 : Int32)), .val (.int (0 : Int32)), .unset]) rfl k) ?_
  show Gl p.tables e below PP (s₁.setTop (mkF m 3 #[.val (.ref a1), .val (.int (0 : Int32)), .val (.ref a2), .val (.int (0 : Int32)), .val (.int (1 : Int32)), .val (.int (0 : Int32)), .unset] []))
  refine Gl.pre (fun _ k => XS.iload X0.here hx rfl (hb hby d10_3) rfl k) ?_
  show Gl p.tables e below PP (s₁.setTop (mkF m 5 #[.val (.ref a1), .val (.int (0 : Int32)), .val (.ref a2), .val (.int (0 : Int32)), .val (.int (1 : Int32)), .val (.int (0 : Int32)), .unset] [(.int (0 : Int32))]))
  refine Gl.pre (fun _ k => XS.iload X0.here hx rfl (hb hby d10_5) rfl k) ?_
  show Gl p.tables e below PP (s₁.setTop (mkF m 7 #[.val (.ref a1), .val (.int (0 : Int32)), .val (.ref a2), .val (.int (0 : Int32)), .val (.int (1 : Int32)), .val (.int (0 : Int32)), .unset] [(.int (1 : Int32)), (.int (0 : Int32))]))
  refine Gl.pre (fun _ k => XS.icmpNo X0.here hx rfl (hb hby d10_7) rfl (tlt (show (0 : Int32) < (1 : Int32) from (by decide))).2.1 k) ?_
  show Gl p.tables e below PP (s₁.setTop (mkF m 10 #[.val (.ref a1), .val (.int (0 : Int32)), .val (.ref a2), .val (.int (0 : Int32)), .val (.int (1 : Int32)), .val (.int (0 : Int32)), .unset] []))
  refine Gl.pre (fun _ k => XS.aloadN X0.here hx rfl (hb hby d10_10) rfl rfl k) ?_
  show Gl p.tables e below PP (s₁.setTop (mkF m 11 #[.val (.ref a1), .val (.int (0 : Int32)), .val (.ref a2), .val (.int (0 : Int32)), .val (.int (1 : Int32)), .val (.int (0 : Int32)), .unset] [(.ref a1)]))
  refine Gl.pre (fun _ k => XS.iloadN X0.here hx rfl (hb hby d10_11) rfl k) ?_
  show Gl p.tables e below PP (s₁.setTop (mkF m 12 #[.val (.ref a1), .val (.int (0 : Int32)), .val (.ref a2), .val (.int (0 : Int32)), .val (.int (1 : Int32)), .val (.int (0 : Int32)), .unset] [(.int (0 : Int32)), (.ref a1)]))
  refine Gl.pre (fun _ k => own_ldC X0 hx hZ e0 V_a1 (j := (0 : Int32)) (i := 0) (by decide) (by decide) (Nat.lt_of_lt_of_eq (by decide : 0 < 1) rfl) (v := c0) rfl (g := (mkF m 12 #[.val (.ref a1), .val (.int (0 : Int32)), .val (.ref a2), .val (.int (0 : Int32)), .val (.int (1 : Int32)), .val (.int (0 : Int32)), .unset] [(.int (0 : Int32)), (.ref a1)])) rfl rfl (hb hby d10_12) _ k) ?_
  show Gl p.tables e below PP (s₁.setTop (mkF m 13 #[.val (.ref a1), .val (.int (0 : Int32)), .val (.ref a2), .val (.int (0 : Int32)), .val (.int (1 : Int32)), .val (.int (0 : Int32)), .unset] [(.int c0)]))
  refine Gl.pre (fun _ k => XS.istore X0.here hx rfl (hb hby d10_13) rfl (l' := #[.val (.ref a1), .val (.int (0 : Int32)), .val (.ref a2), .val (.int (0 : Int32)), .val (.int (1 : Int32)), .val (.int (0 : Int32)), .val (.int c0)]) rfl k) ?_
  show Gl p.tables e below PP (s₁.setTop (mkF m 15 #[.val (.ref a1), .val (.int (0 : Int32)), .val (.ref a2), .val (.int (0 : Int32)), .val (.int (1 : Int32)), .val (.int (0 : Int32)), .val (.int c0)] []))
  refine Gl.pre (fun _ k => XS.iload X0.here hx rfl (hb hby d10_15) rfl k) ?_
  show Gl p.tables e below PP (s₁.setTop (mkF m 17 #[.val (.ref a1), .val (.int (0 : Int32)), .val (.ref a2), .val (.int (0 : Int32)), .val (.int (1 : Int32)), .val (.int (0 : Int32)), .val (.int c0)] [(.int c0)]))
  refine Gl.pre (fun _ k => XS.sipush X0.here hx rfl (hb hby d10_17) k) ?_
  show Gl p.tables e below PP (s₁.setTop (mkF m 20 #[.val (.ref a1), .val (.int (0 : Int32)), .val (.ref a2), .val (.int (0 : Int32)), .val (.int (1 : Int32)), .val (.int (0 : Int32)), .val (.int c0)] [(.int (255 : Int32)), (.int c0)]))
  refine Gl.pre (fun _ k => XS.icmpNo X0.here hx rfl (hb hby d10_20) rfl (tlt (show (255 : Int32) < c0 from hc0)).2.2.2 k) ?_
  show Gl p.tables e below PP (s₁.setTop (mkF m 23 #[.val (.ref a1), .val (.int (0 : Int32)), .val (.ref a2), .val (.int (0 : Int32)), .val (.int (1 : Int32)), .val (.int (0 : Int32)), .val (.int c0)] []))
  refine Gl.pre (fun _ k => XS.iload X0.here hx rfl (hb hby d10_23) rfl k) ?_
  show Gl p.tables e below PP (s₁.setTop (mkF m 25 #[.val (.ref a1), .val (.int (0 : Int32)), .val (.ref a2), .val (.int (0 : Int32)), .val (.int (1 : Int32)), .val (.int (0 : Int32)), .val (.int c0)] [(.int (0 : Int32))]))
  rw [hPP]
  refine own_finI (Q := (Qcz1_0 Z a1 a2 c0 h0 n0)) X0 hx hlk Bd.returns (hb hby d10_25) ?_ (by decide) (by decide)
  show Qcz1_0 Z a1 a2 c0 h0 n0 _ s₁.heap _
  rw [e0]
  exact ⟨rfl, N0, K0, _, rfl, V_a2⟩
theorem ef_cz1_1 (m : MethodId) (a1 : Addr) (a2 : Addr) (c0 : Int32) : entryFrame m #[(.ref a1), (.int (0 : Int32)), (.ref a2), (.int (0 : Int32)), (.int (1 : Int32))] 7 = mkF m 0 #[.val (.ref a1), .val (.int (0 : Int32)), .val (.ref a2), .val (.int (0 : Int32)), .val (.int (1 : Int32)), .unset, .unset] [] := by first | (simp [entryFrame, mkF, argsToLocals, Value.category]; done) | rfl
def Qcz1_1 (Z : State) (a1 : Addr) (a2 : Addr) (c0 : Int32) (h0 : Heap) (n0 : Nat) (v : Option Value) (h : Heap) (L : List Loc) : Prop := v = some (.int (1 : Int32)) ∧ Fr n0 L ∧ Keep h0 h [a2] ∧ ∃ ys : List Int32, ys.length = 1 ∧ Bal Z h a2 .byte ys
set_option maxRecDepth 65536 in
set_option maxHeartbeats 40000000 in
theorem rmcz1_1 (l : Launch) (Z : State) (a0 : Array Value) (hw : ∀ d ∈ tables_1, d.before a0 Z = true) (ws : List Jvm.Cond) (a1 : Addr) (a2 : Addr) (c0 : Int32) (h0 : Heap) (n0 : Nat) (Z0 : n0 ≤ h0.size) (V_a1 : Bal Z h0 a1 .char [c0]) (V_a2 : Bal Z h0 a2 .byte [(0 : Int32)]) (g_a2 : n0 ≤ a2) (own_ne_a1_a2 : a1 ≠ a2) (own_ne_a2_a1 : a2 ≠ a1) (hc0 : ¬ ((255 : Int32) < c0)) :
    MetFree l (⟨"java/lang/StringUTF16", "compress", "([CI[BII)I"⟩ : MethodName) (head1 (Jvm.Cond.code (⟨"java/lang/StringUTF16", "compress", "([CI[BII)I"⟩ : MethodName) jdk_52_method_21_code 7 (some .int) :: ws) ({ frames := 0, cells := 0, slots := 0, locals := 0 } : Room)) (fun a U => a = #[(.ref a1), (.int (0 : Int32)), (.ref a2), (.int (0 : Int32)), (.int (1 : Int32))] ∧ Z.Warmed39 U.vm ∧ U.heap = h0) (fun _ _ _ _ _ => True) (fun _ U o U' => ∃ v L, o = .returned v ∧ Qcz1_1 Z a1 a2 c0 h0 n0 v U'.heap L ∧ FrameEnd U o U' L ({ frames := 0, cells := 0, slots := 0, locals := 0 } : Room).cells ({ frames := 0, cells := 0, slots := 0, locals := 0 } : Room).slots) := by
  refine MetFree.of_bodySF (plainFor_of_name pn_10) hisR ?_
  intro p e s m args below meth c s₁ Bd hml0 hP hK
  obtain ⟨rfl, hZ, hh⟩ := hP
  have hx := Bd.exec
  have hby := Bd.bytes
  have hlk : meth.locks = false := BodyLoose.notSynchronized Bd
  have hml : c.maxLocals = 7 := hml0
  have hown : s.vm.findClass "java/lang/StringUTF16" = some m.cls := findClass_of_methodNamed Bd.named
  have hnm := (name_of_methodNamed Bd.named Bd.method).1
  have X0 : Stand p l e ({ frames := 0, cells := 0, slots := 0, locals := 0 } : Room) s m #[(.ref a1), (.int (0 : Int32)), (.ref a2), (.int (0 : Int32)), (.int (1 : Int32))] below meth c s₁ [] 0 0 := Stand.of_body Bd
  have e0 : s₁.heap = h0 := by rw [← hh, Bd.state]; rfl
  have N0 := Fr.nil n0
  show Gl p.tables e below (fun (o : Outcome) (U' : State) => ∃ v L, o = .returned v ∧ Qcz1_1 Z a1 a2 c0 h0 n0 v U'.heap L ∧ FrameEnd s o U' L ({ frames := 0, cells := 0, slots := 0, locals := 0 } : Room).cells ({ frames := 0, cells := 0, slots := 0, locals := 0 } : Room).slots) _
  refine Gl.pre (fun t k => castTop (ef_cz1_1 m a1 a2 c0) k) ?_
  obtain ⟨PP, hPP⟩ : ∃ P : Outcome → State → Prop, P = (fun (o : Outcome) (U' : State) => ∃ v L, o = .returned v ∧ Qcz1_1 Z a1 a2 c0 h0 n0 v U'.heap L ∧ FrameEnd s o U' L ({ frames := 0, cells := 0, slots := 0, locals := 0 } : Room).cells ({ frames := 0, cells := 0, slots := 0, locals := 0 } : Room).slots) := ⟨_, rfl⟩
  rw [← hPP]
  have K0 : Keep h0 h0 [a2] := Keep.refl h0 _
  show Gl p.tables e below PP (s₁.setTop (mkF m 0 #[.val (.ref a1), .val (.int (0 : Int32)), .val (.ref a2), .val (.int (0 : Int32)), .val (.int (1 : Int32)), .unset, .unset] []))
  refine Gl.pre (fun _ k => XS.iconst X0.here hx rfl (hb hby d10_0) k) ?_
  show Gl p.tables e below PP (s₁.setTop (mkF m 1 #[.val (.ref a1), .val (.int (0 : Int32)), .val (.ref a2), .val (.int (0 : Int32)), .val (.int (1 : Int32)), .unset, .unset] [(.int (0 : Int32))]))
  refine Gl.pre (fun _ k => XS.istore X0.here hx rfl (hb hby d10_1) rfl (l' := #[.val (.ref a1), .val (.int (0 : Int32)), .val (.ref a2), .val (.int (0 : Int32)), .val (.int (1 : Int32)), .val (.int (0 : Int32)), .unset]) rfl k) ?_
  show Gl p.tables e below PP (s₁.setTop (mkF m 3 #[.val (.ref a1), .val (.int (0 : Int32)), .val (.ref a2), .val (.int (0 : Int32)), .val (.int (1 : Int32)), .val (.int (0 : Int32)), .unset] []))
  refine Gl.pre (fun _ k => XS.iload X0.here hx rfl (hb hby d10_3) rfl k) ?_
  show Gl p.tables e below PP (s₁.setTop (mkF m 5 #[.val (.ref a1), .val (.int (0 : Int32)), .val (.ref a2), .val (.int (0 : Int32)), .val (.int (1 : Int32)), .val (.int (0 : Int32)), .unset] [(.int (0 : Int32))]))
  refine Gl.pre (fun _ k => XS.iload X0.here hx rfl (hb hby d10_5) rfl k) ?_
  show Gl p.tables e below PP (s₁.setTop (mkF m 7 #[.val (.ref a1), .val (.int (0 : Int32)), .val (.ref a2), .val (.int (0 : Int32)), .val (.int (1 : Int32)), .val (.int (0 : Int32)), .unset] [(.int (1 : Int32)), (.int (0 : Int32))]))
  refine Gl.pre (fun _ k => XS.icmpNo X0.here hx rfl (hb hby d10_7) rfl (tlt (show (0 : Int32) < (1 : Int32) from (by decide))).2.1 k) ?_
  show Gl p.tables e below PP (s₁.setTop (mkF m 10 #[.val (.ref a1), .val (.int (0 : Int32)), .val (.ref a2), .val (.int (0 : Int32)), .val (.int (1 : Int32)), .val (.int (0 : Int32)), .unset] []))
  refine Gl.pre (fun _ k => XS.aloadN X0.here hx rfl (hb hby d10_10) rfl rfl k) ?_
  show Gl p.tables e below PP (s₁.setTop (mkF m 11 #[.val (.ref a1), .val (.int (0 : Int32)), .val (.ref a2), .val (.int (0 : Int32)), .val (.int (1 : Int32)), .val (.int (0 : Int32)), .unset] [(.ref a1)]))
  refine Gl.pre (fun _ k => XS.iloadN X0.here hx rfl (hb hby d10_11) rfl k) ?_
  show Gl p.tables e below PP (s₁.setTop (mkF m 12 #[.val (.ref a1), .val (.int (0 : Int32)), .val (.ref a2), .val (.int (0 : Int32)), .val (.int (1 : Int32)), .val (.int (0 : Int32)), .unset] [(.int (0 : Int32)), (.ref a1)]))
  refine Gl.pre (fun _ k => own_ldC X0 hx hZ e0 V_a1 (j := (0 : Int32)) (i := 0) (by decide) (by decide) (Nat.lt_of_lt_of_eq (by decide : 0 < 1) rfl) (v := c0) rfl (g := (mkF m 12 #[.val (.ref a1), .val (.int (0 : Int32)), .val (.ref a2), .val (.int (0 : Int32)), .val (.int (1 : Int32)), .val (.int (0 : Int32)), .unset] [(.int (0 : Int32)), (.ref a1)])) rfl rfl (hb hby d10_12) _ k) ?_
  show Gl p.tables e below PP (s₁.setTop (mkF m 13 #[.val (.ref a1), .val (.int (0 : Int32)), .val (.ref a2), .val (.int (0 : Int32)), .val (.int (1 : Int32)), .val (.int (0 : Int32)), .unset] [(.int c0)]))
  refine Gl.pre (fun _ k => XS.istore X0.here hx rfl (hb hby d10_13) rfl (l' := #[.val (.ref a1), .val (.int (0 : Int32)), .val (.ref a2), .val (.int (0 : Int32)), .val (.int (1 : Int32)), .val (.int (0 : Int32)), .val (.int c0)]) rfl k) ?_
  show Gl p.tables e below PP (s₁.setTop (mkF m 15 #[.val (.ref a1), .val (.int (0 : Int32)), .val (.ref a2), .val (.int (0 : Int32)), .val (.int (1 : Int32)), .val (.int (0 : Int32)), .val (.int c0)] []))
  refine Gl.pre (fun _ k => XS.iload X0.here hx rfl (hb hby d10_15) rfl k) ?_
  show Gl p.tables e below PP (s₁.setTop (mkF m 17 #[.val (.ref a1), .val (.int (0 : Int32)), .val (.ref a2), .val (.int (0 : Int32)), .val (.int (1 : Int32)), .val (.int (0 : Int32)), .val (.int c0)] [(.int c0)]))
  refine Gl.pre (fun _ k => XS.sipush X0.here hx rfl (hb hby d10_17) k) ?_
  show Gl p.tables e below PP (s₁.setTop (mkF m 20 #[.val (.ref a1), .val (.int (0 : Int32)), .val (.ref a2), .val (.int (0 : Int32)), .val (.int (1 : Int32)), .val (.int (0 : Int32)), .val (.int c0)] [(.int (255 : Int32)), (.int c0)]))
  refine Gl.pre (fun _ k => XS.icmpYes X0.here hx rfl (pc0 := 20) (pc' := 26) rfl (hb hby d10_20) rfl (flt (show ¬ ((255 : Int32) < c0) from hc0)).2.2.2 (by decide) (by decide) k) ?_
  show Gl p.tables e below PP (s₁.setTop (mkF m 26 #[.val (.ref a1), .val (.int (0 : Int32)), .val (.ref a2), .val (.int (0 : Int32)), .val (.int (1 : Int32)), .val (.int (0 : Int32)), .val (.int c0)] []))
  refine Gl.pre (fun _ k => XS.aloadN X0.here hx rfl (hb hby d10_26) rfl rfl k) ?_
  show Gl p.tables e below PP (s₁.setTop (mkF m 27 #[.val (.ref a1), .val (.int (0 : Int32)), .val (.ref a2), .val (.int (0 : Int32)), .val (.int (1 : Int32)), .val (.int (0 : Int32)), .val (.int c0)] [(.ref a2)]))
  refine Gl.pre (fun _ k => XS.iloadN X0.here hx rfl (hb hby d10_27) rfl k) ?_
  show Gl p.tables e below PP (s₁.setTop (mkF m 28 #[.val (.ref a1), .val (.int (0 : Int32)), .val (.ref a2), .val (.int (0 : Int32)), .val (.int (1 : Int32)), .val (.int (0 : Int32)), .val (.int c0)] [(.int (0 : Int32)), (.ref a2)]))
  refine Gl.pre (fun _ k => XS.iload X0.here hx rfl (hb hby d10_28) rfl k) ?_
  show Gl p.tables e below PP (s₁.setTop (mkF m 30 #[.val (.ref a1), .val (.int (0 : Int32)), .val (.ref a2), .val (.int (0 : Int32)), .val (.int (1 : Int32)), .val (.int (0 : Int32)), .val (.int c0)] [(.int c0), (.int (0 : Int32)), (.ref a2)]))
  refine Gl.pre (fun _ k => XS.i2b X0.here hx rfl (hb hby d10_30) rfl k) ?_
  show Gl p.tables e below PP (s₁.setTop (mkF m 31 #[.val (.ref a1), .val (.int (0 : Int32)), .val (.ref a2), .val (.int (0 : Int32)), .val (.int (1 : Int32)), .val (.int (0 : Int32)), .val (.int c0)] [(.int (c0.toInt8.toInt32)), (.int (0 : Int32)), (.ref a2)]))
  obtain ⟨T1, h1, X1, e1, W1, V1, st1⟩ := own_stB X0 hx hZ e0 V_a2 (j := (0 : Int32)) (i := 0) (by decide) (by decide) (Nat.lt_of_lt_of_eq (by decide : 0 < 1) rfl) (g := (mkF m 31 #[.val (.ref a1), .val (.int (0 : Int32)), .val (.ref a2), .val (.int (0 : Int32)), .val (.int (1 : Int32)), .val (.int (0 : Int32)), .val (.int c0)] [(.int (c0.toInt8.toInt32)), (.int (0 : Int32)), (.ref a2)])) rfl rfl (hb hby d10_31)
  refine Gl.pre (fun _ k => st1 _ k) ?_
  have V_a1 := V_a1.other W1 (own_ne_a1_a2)
  have Z1 : n0 ≤ h1.size := by rw [W1.size]; exact Z0
  have N1 := Fr.snoc X1 N0 g_a2
  have K1 := K0.wr W1 (Or.inl (List.mem_of_getElem? (i := 0) rfl))
  have V_a2 : Bal Z h1 a2 .byte [(nar .byte (c0.toInt8.toInt32))] := V1
  show Gl p.tables e below PP (T1.setTop (mkF m 32 #[.val (.ref a1), .val (.int (0 : Int32)), .val (.ref a2), .val (.int (0 : Int32)), .val (.int (1 : Int32)), .val (.int (0 : Int32)), .val (.int c0)] []))
  refine Gl.pre (fun _ k => XS.iinc X1.here hx rfl (hb hby d10_32) rfl (l' := #[.val (.ref a1), .val (.int (1 : Int32)), .val (.ref a2), .val (.int (0 : Int32)), .val (.int (1 : Int32)), .val (.int (0 : Int32)), .val (.int c0)]) rfl k) ?_
  show Gl p.tables e below PP (T1.setTop (mkF m 35 #[.val (.ref a1), .val (.int (1 : Int32)), .val (.ref a2), .val (.int (0 : Int32)), .val (.int (1 : Int32)), .val (.int (0 : Int32)), .val (.int c0)] []))
  refine Gl.pre (fun _ k => XS.iinc X1.here hx rfl (hb hby d10_35) rfl (l' := #[.val (.ref a1), .val (.int (1 : Int32)), .val (.ref a2), .val (.int (1 : Int32)), .val (.int (1 : Int32)), .val (.int (0 : Int32)), .val (.int c0)]) rfl k) ?_
  show Gl p.tables e below PP (T1.setTop (mkF m 38 #[.val (.ref a1), .val (.int (1 : Int32)), .val (.ref a2), .val (.int (1 : Int32)), .val (.int (1 : Int32)), .val (.int (0 : Int32)), .val (.int c0)] []))
  refine Gl.pre (fun _ k => XS.iinc X1.here hx rfl (hb hby d10_38) rfl (l' := #[.val (.ref a1), .val (.int (1 : Int32)), .val (.ref a2), .val (.int (1 : Int32)), .val (.int (1 : Int32)), .val (.int (1 : Int32)), .val (.int c0)]) rfl k) ?_
  show Gl p.tables e below PP (T1.setTop (mkF m 41 #[.val (.ref a1), .val (.int (1 : Int32)), .val (.ref a2), .val (.int (1 : Int32)), .val (.int (1 : Int32)), .val (.int (1 : Int32)), .val (.int c0)] []))
  refine Gl.pre (fun _ k => XS.goto X1.here hx rfl (pc0 := 41) (pc' := 3) rfl (hb hby d10_41) (by decide) (by decide) k) ?_
  show Gl p.tables e below PP (T1.setTop (mkF m 3 #[.val (.ref a1), .val (.int (1 : Int32)), .val (.ref a2), .val (.int (1 : Int32)), .val (.int (1 : Int32)), .val (.int (1 : Int32)), .val (.int c0)] []))
  refine Gl.pre (fun _ k => XS.iload X1.here hx rfl (hb hby d10_3) rfl k) ?_
  show Gl p.tables e below PP (T1.setTop (mkF m 5 #[.val (.ref a1), .val (.int (1 : Int32)), .val (.ref a2), .val (.int (1 : Int32)), .val (.int (1 : Int32)), .val (.int (1 : Int32)), .val (.int c0)] [(.int (1 : Int32))]))
  refine Gl.pre (fun _ k => XS.iload X1.here hx rfl (hb hby d10_5) rfl k) ?_
  show Gl p.tables e below PP (T1.setTop (mkF m 7 #[.val (.ref a1), .val (.int (1 : Int32)), .val (.ref a2), .val (.int (1 : Int32)), .val (.int (1 : Int32)), .val (.int (1 : Int32)), .val (.int c0)] [(.int (1 : Int32)), (.int (1 : Int32))]))
  refine Gl.pre (fun _ k => XS.icmpYes X1.here hx rfl (pc0 := 7) (pc' := 44) rfl (hb hby d10_7) rfl (flt (show ¬ ((1 : Int32) < (1 : Int32)) from (by decide))).2.1 (by decide) (by decide) k) ?_
  show Gl p.tables e below PP (T1.setTop (mkF m 44 #[.val (.ref a1), .val (.int (1 : Int32)), .val (.ref a2), .val (.int (1 : Int32)), .val (.int (1 : Int32)), .val (.int (1 : Int32)), .val (.int c0)] []))
  refine Gl.pre (fun _ k => XS.iload X1.here hx rfl (hb hby d10_44) rfl k) ?_
  show Gl p.tables e below PP (T1.setTop (mkF m 46 #[.val (.ref a1), .val (.int (1 : Int32)), .val (.ref a2), .val (.int (1 : Int32)), .val (.int (1 : Int32)), .val (.int (1 : Int32)), .val (.int c0)] [(.int (1 : Int32))]))
  rw [hPP]
  refine own_finI (Q := (Qcz1_1 Z a1 a2 c0 h0 n0)) X1 hx hlk Bd.returns (hb hby d10_46) ?_ (by decide) (by decide)
  show Qcz1_1 Z a1 a2 c0 h0 n0 _ T1.heap _
  rw [e1]
  exact ⟨rfl, N1, K1, _, rfl, V_a2⟩
theorem d14_0 : decode jdk_52_method_3_code 0 = .ok (.iload_n 0, 1) := by decide +kernel
theorem d14_1 : decode jdk_52_method_3_code 1 = .ok (.ifCond .ge 11, 3) := by decide +kernel
theorem d14_4 : decode jdk_52_method_3_code 4 = .ok (.new 17, 3) := by decide +kernel
theorem d14_7 : decode jdk_52_method_3_code 7 = .ok (.dup, 1) := by decide +kernel
theorem d14_8 : decode jdk_52_method_3_code 8 = .ok (.invokespecial 19, 3) := by decide +kernel
theorem d14_11 : decode jdk_52_method_3_code 11 = .ok (.athrow, 1) := by decide +kernel
theorem d14_12 : decode jdk_52_method_3_code 12 = .ok (.iload_n 0, 1) := by decide +kernel
theorem d14_13 : decode jdk_52_method_3_code 13 = .ok (.ldc 20, 2) := by decide +kernel
theorem d14_15 : decode jdk_52_method_3_code 15 = .ok (.if_icmp .lt 40, 3) := by decide +kernel
theorem d14_18 : decode jdk_52_method_3_code 18 = .ok (.new 21, 3) := by decide +kernel
theorem d14_21 : decode jdk_52_method_3_code 21 = .ok (.dup, 1) := by decide +kernel
theorem d14_22 : decode jdk_52_method_3_code 22 = .ok (.new 23, 3) := by decide +kernel
theorem d14_25 : decode jdk_52_method_3_code 25 = .ok (.dup, 1) := by decide +kernel
theorem d14_26 : decode jdk_52_method_3_code 26 = .ok (.invokespecial 25, 3) := by decide +kernel
theorem d14_29 : decode jdk_52_method_3_code 29 = .ok (.ldc 26, 2) := by decide +kernel
theorem d14_31 : decode jdk_52_method_3_code 31 = .ok (.invokevirtual 28, 3) := by decide +kernel
theorem d14_34 : decode jdk_52_method_3_code 34 = .ok (.iload_n 0, 1) := by decide +kernel
theorem d14_35 : decode jdk_52_method_3_code 35 = .ok (.invokevirtual 32, 3) := by decide +kernel
theorem d14_38 : decode jdk_52_method_3_code 38 = .ok (.ldc 35, 2) := by decide +kernel
theorem d14_40 : decode jdk_52_method_3_code 40 = .ok (.invokevirtual 28, 3) := by decide +kernel
theorem d14_43 : decode jdk_52_method_3_code 43 = .ok (.ldc 20, 2) := by decide +kernel
theorem d14_45 : decode jdk_52_method_3_code 45 = .ok (.invokevirtual 32, 3) := by decide +kernel
theorem d14_48 : decode jdk_52_method_3_code 48 = .ok (.invokevirtual 37, 3) := by decide +kernel
theorem d14_51 : decode jdk_52_method_3_code 51 = .ok (.invokespecial 41, 3) := by decide +kernel
theorem d14_54 : decode jdk_52_method_3_code 54 = .ok (.athrow, 1) := by decide +kernel
theorem d14_55 : decode jdk_52_method_3_code 55 = .ok (.iload_n 0, 1) := by decide +kernel
theorem d14_56 : decode jdk_52_method_3_code 56 = .ok (.iconst 1, 1) := by decide +kernel
theorem d14_57 : decode jdk_52_method_3_code 57 = .ok (.ishl, 1) := by decide +kernel
theorem d14_58 : decode jdk_52_method_3_code 58 = .ok (.ireturn, 1) := by decide +kernel
theorem pn_14 : plainName "java/lang/StringUTF16" = true := by first | (simp [plainName, overriddenIn]; done) | decide +kernel
theorem ef_nl1 (m : MethodId)  : entryFrame m #[(.int (1 : Int32))] 1 = mkF m 0 #[.val (.int (1 : Int32))] [] := by first | (simp [entryFrame, mkF, argsToLocals, Value.category]; done) | rfl
def Qnl1 (Z : State)  (h0 : Heap) (n0 : Nat) (v : Option Value) (h : Heap) (L : List Loc) : Prop := v = some (.int (2 : Int32)) ∧ Fr n0 L ∧ h = h0
set_option maxRecDepth 65536 in
set_option maxHeartbeats 40000000 in
theorem rmnl1 (l : Launch) (Z : State) (a0 : Array Value) (hw : ∀ d ∈ tables_1, d.before a0 Z = true) (ws : List Jvm.Cond)  (h0 : Heap) (n0 : Nat) (Z0 : n0 ≤ h0.size)  :
    MetFree l (⟨"java/lang/StringUTF16", "newBytesLength", "(I)I"⟩ : MethodName) (head1 (Jvm.Cond.code (⟨"java/lang/StringUTF16", "newBytesLength", "(I)I"⟩ : MethodName) jdk_52_method_3_code 1 (some .int) :: ws) ({ frames := 0, cells := 0, slots := 0, locals := 0 } : Room)) (fun a U => a = #[(.int (1 : Int32))] ∧ Z.Warmed39 U.vm ∧ U.heap = h0) (fun _ _ _ _ _ => True) (fun _ U o U' => ∃ v L, o = .returned v ∧ Qnl1 Z  h0 n0 v U'.heap L ∧ FrameEnd U o U' L ({ frames := 0, cells := 0, slots := 0, locals := 0 } : Room).cells ({ frames := 0, cells := 0, slots := 0, locals := 0 } : Room).slots) := by
  refine MetFree.of_bodySF (plainFor_of_name pn_14) hisR ?_
  intro p e s m args below meth c s₁ Bd hml0 hP hK
  obtain ⟨rfl, hZ, hh⟩ := hP
  have hx := Bd.exec
  have hby := Bd.bytes
  have hlk : meth.locks = false := BodyLoose.notSynchronized Bd
  have hml : c.maxLocals = 1 := hml0
  have hown : s.vm.findClass "java/lang/StringUTF16" = some m.cls := findClass_of_methodNamed Bd.named
  have hnm := (name_of_methodNamed Bd.named Bd.method).1
  have X0 : Stand p l e ({ frames := 0, cells := 0, slots := 0, locals := 0 } : Room) s m #[(.int (1 : Int32))] below meth c s₁ [] 0 0 := Stand.of_body Bd
  have e0 : s₁.heap = h0 := by rw [← hh, Bd.state]; rfl
  have N0 := Fr.nil n0
  show Gl p.tables e below (fun (o : Outcome) (U' : State) => ∃ v L, o = .returned v ∧ Qnl1 Z  h0 n0 v U'.heap L ∧ FrameEnd s o U' L ({ frames := 0, cells := 0, slots := 0, locals := 0 } : Room).cells ({ frames := 0, cells := 0, slots := 0, locals := 0 } : Room).slots) _
  refine Gl.pre (fun t k => castTop (ef_nl1 m ) k) ?_
  obtain ⟨PP, hPP⟩ : ∃ P : Outcome → State → Prop, P = (fun (o : Outcome) (U' : State) => ∃ v L, o = .returned v ∧ Qnl1 Z  h0 n0 v U'.heap L ∧ FrameEnd s o U' L ({ frames := 0, cells := 0, slots := 0, locals := 0 } : Room).cells ({ frames := 0, cells := 0, slots := 0, locals := 0 } : Room).slots) := ⟨_, rfl⟩
  rw [← hPP]
  show Gl p.tables e below PP (s₁.setTop (mkF m 0 #[.val (.int (1 : Int32))] []))
  refine Gl.pre (fun _ k => XS.iloadN X0.here hx rfl (hb hby d14_0) rfl k) ?_
  show Gl p.tables e below PP (s₁.setTop (mkF m 1 #[.val (.int (1 : Int32))] [(.int (1 : Int32))]))
  refine Gl.pre (fun _ k => XS.ifYes X0.here hx rfl (pc0 := 1) (pc' := 12) rfl (hb hby d14_1) rfl ((if0 _ _).trans (flt (show ¬ ((1 : Int32) < (0 : Int32)) from (by decide))).2.1) (by decide) (by decide) k) ?_
  show Gl p.tables e below PP (s₁.setTop (mkF m 12 #[.val (.int (1 : Int32))] []))
  refine Gl.pre (fun _ k => XS.iloadN X0.here hx rfl (hb hby d14_12) rfl k) ?_
  show Gl p.tables e below PP (s₁.setTop (mkF m 13 #[.val (.int (1 : Int32))] [(.int (1 : Int32))]))
  refine Gl.pre (fun _ k => X0.ldcInt hx hown (mvT hZ (hw _ (List.mem_of_getElem? (i := 74) rfl))) (g := (mkF m 13 #[.val (.int (1 : Int32))] [(.int (1 : Int32))])) rfl (hb hby d14_13) _ k) ?_
  show Gl p.tables e below PP (s₁.setTop (mkF m 15 #[.val (.int (1 : Int32))] [(.int (1073741823 : Int32)), (.int (1 : Int32))]))
  refine Gl.pre (fun _ k => XS.icmpYes X0.here hx rfl (pc0 := 15) (pc' := 55) rfl (hb hby d14_15) rfl (tlt (show (1 : Int32) < (1073741823 : Int32) from (by decide))).1 (by decide) (by decide) k) ?_
  show Gl p.tables e below PP (s₁.setTop (mkF m 55 #[.val (.int (1 : Int32))] []))
  refine Gl.pre (fun _ k => XS.iloadN X0.here hx rfl (hb hby d14_55) rfl k) ?_
  show Gl p.tables e below PP (s₁.setTop (mkF m 56 #[.val (.int (1 : Int32))] [(.int (1 : Int32))]))
  refine Gl.pre (fun _ k => XS.iconst X0.here hx rfl (hb hby d14_56) k) ?_
  show Gl p.tables e below PP (s₁.setTop (mkF m 57 #[.val (.int (1 : Int32))] [(.int (1 : Int32)), (.int (1 : Int32))]))
  refine Gl.pre (fun _ k => XS.ishl X0.here hx rfl (hb hby d14_57) rfl k) ?_
  show Gl p.tables e below PP (s₁.setTop (mkF m 58 #[.val (.int (1 : Int32))] [(.int ((1 : Int32) <<< ((1 : Int32) &&& 31)))]))
  rw [show ((1 : Int32) <<< ((1 : Int32) &&& 31)) = (2 : Int32) by decide]
  show Gl p.tables e below PP (s₁.setTop (mkF m 58 #[.val (.int (1 : Int32))] [(.int (2 : Int32))]))
  rw [hPP]
  refine own_finI (Q := (Qnl1 Z  h0 n0)) X0 hx hlk Bd.returns (hb hby d14_58) ?_ (by decide) (by decide)
  show Qnl1 Z  h0 n0 _ s₁.heap _
  rw [e0]
  exact ⟨rfl, N0, rfl⟩
theorem d13_0 : decode jdk_52_method_2_code 0 = .ok (.iload_n 0, 1) := by decide +kernel
theorem d13_1 : decode jdk_52_method_2_code 1 = .ok (.invokestatic 11, 3) := by decide +kernel
theorem d13_4 : decode jdk_52_method_2_code 4 = .ok (.newarray .byte, 2) := by decide +kernel
theorem d13_6 : decode jdk_52_method_2_code 6 = .ok (.areturn, 1) := by decide +kernel
theorem pn_13 : plainName "java/lang/StringUTF16" = true := by first | (simp [plainName, overriddenIn]; done) | decide +kernel
theorem ef_nf1 (m : MethodId)  : entryFrame m #[(.int (1 : Int32))] 1 = mkF m 0 #[.val (.int (1 : Int32))] [] := by first | (simp [entryFrame, mkF, argsToLocals, Value.category]; done) | rfl
def Qnf1 (Z : State)  (h0 : Heap) (n0 : Nat) (v : Option Value) (h : Heap) (L : List Loc) : Prop := ∃ b : Addr, v = some (.ref b) ∧ Fr n0 L ∧ h0.size ≤ b ∧ Keep h0 h [] ∧ Bal Z h b .byte [(0 : Int32), (0 : Int32)]
set_option maxRecDepth 65536 in
set_option maxHeartbeats 40000000 in
theorem rmnf1 (l : Launch) (Z : State) (a0 : Array Value) (hw : ∀ d ∈ tables_1, d.before a0 Z = true) (ws : List Jvm.Cond)  (h0 : Heap) (n0 : Nat) (Z0 : n0 ≤ h0.size)  :
    MetFree l (⟨"java/lang/StringUTF16", "newBytesFor", "(I)[B"⟩ : MethodName) (head1 (Jvm.Cond.code (⟨"java/lang/StringUTF16", "newBytesFor", "(I)[B"⟩ : MethodName) jdk_52_method_2_code 1 (some (.array .byte)) :: ws) ({ frames := 1, cells := 1, slots := 2, locals := 12 } : Room)) (fun a U => a = #[(.int (1 : Int32))] ∧ Z.Warmed39 U.vm ∧ U.heap = h0) (fun _ _ _ _ _ => True) (fun _ U o U' => ∃ v L, o = .returned v ∧ Qnf1 Z  h0 n0 v U'.heap L ∧ FrameEnd U o U' L ({ frames := 1, cells := 1, slots := 2, locals := 12 } : Room).cells ({ frames := 1, cells := 1, slots := 2, locals := 12 } : Room).slots) := by
  refine MetFree.of_bodySF (plainFor_of_name pn_13) hisR ?_
  intro p e s m args below meth c s₁ Bd hml0 hP hK
  obtain ⟨rfl, hZ, hh⟩ := hP
  have hx := Bd.exec
  have hby := Bd.bytes
  have hlk : meth.locks = false := BodyLoose.notSynchronized Bd
  have hml : c.maxLocals = 1 := hml0
  have hown : s.vm.findClass "java/lang/StringUTF16" = some m.cls := findClass_of_methodNamed Bd.named
  have hnm := (name_of_methodNamed Bd.named Bd.method).1
  have X0 : Stand p l e ({ frames := 1, cells := 1, slots := 2, locals := 12 } : Room) s m #[(.int (1 : Int32))] below meth c s₁ [] 0 0 := Stand.of_body Bd
  have e0 : s₁.heap = h0 := by rw [← hh, Bd.state]; rfl
  have N0 := Fr.nil n0
  show Gl p.tables e below (fun (o : Outcome) (U' : State) => ∃ v L, o = .returned v ∧ Qnf1 Z  h0 n0 v U'.heap L ∧ FrameEnd s o U' L ({ frames := 1, cells := 1, slots := 2, locals := 12 } : Room).cells ({ frames := 1, cells := 1, slots := 2, locals := 12 } : Room).slots) _
  refine Gl.pre (fun t k => castTop (ef_nf1 m ) k) ?_
  obtain ⟨PP, hPP⟩ : ∃ P : Outcome → State → Prop, P = (fun (o : Outcome) (U' : State) => ∃ v L, o = .returned v ∧ Qnf1 Z  h0 n0 v U'.heap L ∧ FrameEnd s o U' L ({ frames := 1, cells := 1, slots := 2, locals := 12 } : Room).cells ({ frames := 1, cells := 1, slots := 2, locals := 12 } : Room).slots) := ⟨_, rfl⟩
  rw [← hPP]
  have K0 : Keep h0 h0 [] := Keep.refl h0 _
  show Gl p.tables e below PP (s₁.setTop (mkF m 0 #[.val (.int (1 : Int32))] []))
  refine Gl.pre (fun _ k => XS.iloadN X0.here hx rfl (hb hby d13_0) rfl k) ?_
  show Gl p.tables e below PP (s₁.setTop (mkF m 1 #[.val (.int (1 : Int32))] [(.int (1 : Int32))]))
  obtain ⟨_, _, ⟨T1, L1, k1, n1⟩, -, X1, ⟨Lc1, hQ1, l1, y1, z1⟩, st1⟩ := Jvm.LawKit.callS X0 hx (y := (⟨"java/lang/StringUTF16", "newBytesLength", "(I)I"⟩ : MethodName)) hown (mvT hZ (hw _ (List.mem_of_getElem? (i := 71) rfl))) (mvT hZ (hw _ (List.mem_of_getElem? (i := 72) rfl))) (mvT hZ (hw _ (List.mem_of_getElem? (i := 57) rfl))) (mvT hZ (hw _ (List.mem_of_getElem? (i := 73) rfl))) (by decide) (backOf (W := 0) (rmnl1 l Z a0 hw []  h0 n0 Z0 ) hZ (hw _ (List.mem_of_getElem? (i := 73) rfl)) (hw _ (List.mem_of_getElem? (i := 57) rfl)) (by decide) (by decide)) (g := (mkF m 1 #[.val (.int (1 : Int32))] [(.int (1 : Int32))])) rfl (by rw [hml]; rfl) (argsL := [(.int (1 : Int32))]) (rest := []) (lenOf pd_0 rfl) rfl (by show 2 * 0 + _ ≤ _; exact Nat.le_of_eq rfl) (hb hby d13_1) (fun _ _ => ⟨rfl, e0, (by decide : 0 + 0 ≤ _), (by decide : 0 + 0 ≤ _)⟩)
  dsimp only [Pt.U, Pt.locs, Pt.cells, Pt.slots] at X1 l1 y1 z1 st1 hQ1
  subst l1 y1 z1
  obtain ⟨rfl, N1q, e1⟩ := hQ1
  have N1 := Fr.app N0 N1q
  refine Gl.pre (fun _ k => st1 _ k) ?_
  show Gl p.tables e below PP (T1.setTop (mkF m 4 #[.val (.int (1 : Int32))] [(.int (2 : Int32))]))
  obtain ⟨T2, h2, k2, X2, e2, E2, A2, st2⟩ := newP X1 hx hZ (hw _ (List.mem_of_getElem? (i := 19) rfl)) e1 (g := (mkF m 4 #[.val (.int (1 : Int32))] [(.int (2 : Int32))])) rfl (hb hby d13_4) rfl (by decide) (cap := 2) (by decide) (by decide) (by decide) (by decide)
  obtain ⟨b2, g2⟩ : ∃ z, z = h0.size := ⟨_, rfl⟩
  rw [← g2] at A2 st2
  refine Gl.pre (fun _ k => st2 _ k) ?_
  have g_b2 : n0 ≤ b2 := Nat.le_trans Z0 (Nat.le_of_eq g2.symm)
  have sz_b2 : h0.size ≤ b2 := Nat.le_trans K0.1 (Nat.le_of_eq g2.symm)
  have Z2 : n0 ≤ h2.size := Nat.le_trans Z0 E2.1
  have K2 := K0.ext E2
  have V_b2 : Bal Z h2 b2 .byte [(0 : Int32), (0 : Int32)] := Bal.new (ty := .byte) A2 (n := 2) (by decide) rfl
  show Gl p.tables e below PP (T2.setTop (mkF m 6 #[.val (.int (1 : Int32))] [(.ref b2)]))
  rw [hPP]
  refine own_finA (Q := (Qnf1 Z  h0 n0)) X2 hx hlk Bd.returns rfl rfl (hb hby d13_6) ?_ (by decide) (by decide)
  show Qnf1 Z  h0 n0 _ T2.heap _
  rw [e2]
  exact ⟨b2, rfl, N1, sz_b2, K2, V_b2⟩
theorem d15_0 : decode jdk_52_method_4_code 0 = .ok (.getstatic 44, 3) := by decide +kernel
theorem d15_3 : decode jdk_52_method_4_code 3 = .ok (.ifCond .ne 25, 3) := by decide +kernel
theorem d15_6 : decode jdk_52_method_4_code 6 = .ok (.iload_n 1, 1) := by decide +kernel
theorem d15_7 : decode jdk_52_method_4_code 7 = .ok (.ifCond .lt 11, 3) := by decide +kernel
theorem d15_10 : decode jdk_52_method_4_code 10 = .ok (.iload_n 1, 1) := by decide +kernel
theorem d15_11 : decode jdk_52_method_4_code 11 = .ok (.aload_n 0, 1) := by decide +kernel
theorem d15_12 : decode jdk_52_method_4_code 12 = .ok (.invokestatic 48, 3) := by decide +kernel
theorem d15_15 : decode jdk_52_method_4_code 15 = .ok (.if_icmp .lt 13, 3) := by decide +kernel
theorem d15_18 : decode jdk_52_method_4_code 18 = .ok (.new 52, 3) := by decide +kernel
theorem d15_21 : decode jdk_52_method_4_code 21 = .ok (.dup, 1) := by decide +kernel
theorem d15_22 : decode jdk_52_method_4_code 22 = .ok (.ldc 54, 2) := by decide +kernel
theorem d15_24 : decode jdk_52_method_4_code 24 = .ok (.invokespecial 56, 3) := by decide +kernel
theorem d15_27 : decode jdk_52_method_4_code 27 = .ok (.athrow, 1) := by decide +kernel
theorem d15_28 : decode jdk_52_method_4_code 28 = .ok (.iload_n 1, 1) := by decide +kernel
theorem d15_29 : decode jdk_52_method_4_code 29 = .ok (.iconst 1, 1) := by decide +kernel
theorem d15_30 : decode jdk_52_method_4_code 30 = .ok (.ishl, 1) := by decide +kernel
theorem d15_31 : decode jdk_52_method_4_code 31 = .ok (.istore_n 1, 1) := by decide +kernel
theorem d15_32 : decode jdk_52_method_4_code 32 = .ok (.aload_n 0, 1) := by decide +kernel
theorem d15_33 : decode jdk_52_method_4_code 33 = .ok (.iload_n 1, 1) := by decide +kernel
theorem d15_34 : decode jdk_52_method_4_code 34 = .ok (.iinc 1 1, 3) := by decide +kernel
theorem d15_37 : decode jdk_52_method_4_code 37 = .ok (.iload_n 2, 1) := by decide +kernel
theorem d15_38 : decode jdk_52_method_4_code 38 = .ok (.getstatic 59, 3) := by decide +kernel
theorem d15_41 : decode jdk_52_method_4_code 41 = .ok (.ishr, 1) := by decide +kernel
theorem d15_42 : decode jdk_52_method_4_code 42 = .ok (.i2b, 1) := by decide +kernel
theorem d15_43 : decode jdk_52_method_4_code 43 = .ok (.bastore, 1) := by decide +kernel
theorem d15_44 : decode jdk_52_method_4_code 44 = .ok (.aload_n 0, 1) := by decide +kernel
theorem d15_45 : decode jdk_52_method_4_code 45 = .ok (.iload_n 1, 1) := by decide +kernel
theorem d15_46 : decode jdk_52_method_4_code 46 = .ok (.iload_n 2, 1) := by decide +kernel
theorem d15_47 : decode jdk_52_method_4_code 47 = .ok (.getstatic 63, 3) := by decide +kernel
theorem d15_50 : decode jdk_52_method_4_code 50 = .ok (.ishr, 1) := by decide +kernel
theorem d15_51 : decode jdk_52_method_4_code 51 = .ok (.i2b, 1) := by decide +kernel
theorem d15_52 : decode jdk_52_method_4_code 52 = .ok (.bastore, 1) := by decide +kernel
theorem d15_53 : decode jdk_52_method_4_code 53 = .ok (.return_, 1) := by decide +kernel
theorem pn_15 : plainName "java/lang/StringUTF16" = true := by first | (simp [plainName, overriddenIn]; done) | decide +kernel
theorem ef_pu0 (m : MethodId) (a1 : Addr) (pv : Int32) (xs : List Int32) : entryFrame m #[(.ref a1), (.int (0 : Int32)), (.int pv)] 3 = mkF m 0 #[.val (.ref a1), .val (.int (0 : Int32)), .val (.int pv)] [] := by first | (simp [entryFrame, mkF, argsToLocals, Value.category]; done) | rfl
def Qpu0 (Z : State) (a1 : Addr) (pv : Int32) (xs : List Int32) (h0 : Heap) (n0 : Nat) (v : Option Value) (h : Heap) (L : List Loc) : Prop := v = none ∧ Fr n0 L ∧ Keep h0 h [a1] ∧ Bal Z h a1 .byte ((xs.set 0 (nar .byte ((pv >>> ((0 : Int32) &&& 31)).toInt8.toInt32))).set 1 (nar .byte ((pv >>> ((8 : Int32) &&& 31)).toInt8.toInt32)))
set_option maxRecDepth 65536 in
set_option maxHeartbeats 40000000 in
theorem rmpu0 (l : Launch) (Z : State) (a0 : Array Value) (hw : ∀ d ∈ tables_1, d.before a0 Z = true) (ws : List Jvm.Cond) (a1 : Addr) (pv : Int32) (xs : List Int32) (h0 : Heap) (n0 : Nat) (Z0 : n0 ≤ h0.size) (V_a1 : Bal Z h0 a1 .byte xs) (g_a1 : n0 ≤ a1) (hlt : 1 < xs.length) (SAD : Sta Z Z.heap "java/lang/StringUTF16" "$assertionsDisabled" "Z" (.int (1 : Int32))) (SHI : Sta Z Z.heap "java/lang/StringUTF16" "HI_BYTE_SHIFT" "I" (.int (0 : Int32))) (SLO : Sta Z Z.heap "java/lang/StringUTF16" "LO_BYTE_SHIFT" "I" (.int (8 : Int32))) (O_ : Old Z n0 h0) :
    MetFree l (⟨"java/lang/StringUTF16", "putChar", "([BII)V"⟩ : MethodName) (head1 (Jvm.Cond.code (⟨"java/lang/StringUTF16", "putChar", "([BII)V"⟩ : MethodName) jdk_52_method_4_code 3 none :: ws) ({ frames := 0, cells := 0, slots := 0, locals := 0 } : Room)) (fun a U => a = #[(.ref a1), (.int (0 : Int32)), (.int pv)] ∧ Z.Warmed39 U.vm ∧ U.heap = h0) (fun _ _ _ _ _ => True) (fun _ U o U' => ∃ v L, o = .returned v ∧ Qpu0 Z a1 pv xs h0 n0 v U'.heap L ∧ FrameEnd U o U' L ({ frames := 0, cells := 0, slots := 0, locals := 0 } : Room).cells ({ frames := 0, cells := 0, slots := 0, locals := 0 } : Room).slots) := by
  refine MetFree.of_bodySF (plainFor_of_name pn_15) hisR ?_
  intro p e s m args below meth c s₁ Bd hml0 hP hK
  obtain ⟨rfl, hZ, hh⟩ := hP
  have hx := Bd.exec
  have hby := Bd.bytes
  have hlk : meth.locks = false := BodyLoose.notSynchronized Bd
  have hml : c.maxLocals = 3 := hml0
  have hown : s.vm.findClass "java/lang/StringUTF16" = some m.cls := findClass_of_methodNamed Bd.named
  have hnm := (name_of_methodNamed Bd.named Bd.method).1
  have X0 : Stand p l e ({ frames := 0, cells := 0, slots := 0, locals := 0 } : Room) s m #[(.ref a1), (.int (0 : Int32)), (.int pv)] below meth c s₁ [] 0 0 := Stand.of_body Bd
  have e0 : s₁.heap = h0 := by rw [← hh, Bd.state]; rfl
  have N0 := Fr.nil n0
  show Gl p.tables e below (fun (o : Outcome) (U' : State) => ∃ v L, o = .returned v ∧ Qpu0 Z a1 pv xs h0 n0 v U'.heap L ∧ FrameEnd s o U' L ({ frames := 0, cells := 0, slots := 0, locals := 0 } : Room).cells ({ frames := 0, cells := 0, slots := 0, locals := 0 } : Room).slots) _
  refine Gl.pre (fun t k => castTop (ef_pu0 m a1 pv xs) k) ?_
  obtain ⟨PP, hPP⟩ : ∃ P : Outcome → State → Prop, P = (fun (o : Outcome) (U' : State) => ∃ v L, o = .returned v ∧ Qpu0 Z a1 pv xs h0 n0 v U'.heap L ∧ FrameEnd s o U' L ({ frames := 0, cells := 0, slots := 0, locals := 0 } : Room).cells ({ frames := 0, cells := 0, slots := 0, locals := 0 } : Room).slots) := ⟨_, rfl⟩
  rw [← hPP]
  have K0 : Keep h0 h0 [a1] := Keep.refl h0 _
  show Gl p.tables e below PP (s₁.setTop (mkF m 0 #[.val (.ref a1), .val (.int (0 : Int32)), .val (.int pv)] []))
  obtain ⟨T1, X1, e1, st1⟩ := getS2 X0 hx hZ hown (host := "") (Or.inl (hw _ (List.mem_of_getElem? (i := 78) rfl))) Via.refl e0 (SAD.ext O_.2) (g := (mkF m 0 #[.val (.ref a1), .val (.int (0 : Int32)), .val (.int pv)] [])) rfl (hb hby d15_0)
  refine Gl.pre (fun _ k => st1 _ k) ?_
  show Gl p.tables e below PP (T1.setTop (mkF m 3 #[.val (.ref a1), .val (.int (0 : Int32)), .val (.int pv)] [(.int (1 : Int32))]))
  refine Gl.pre (fun _ k => XS.ifYes X1.here hx rfl (pc0 := 3) (pc' := 28) rfl (hb hby d15_3) rfl ((if0 _ _).trans (feq (show ¬ ((1 : Int32) = (0 : Int32)) from (by decide))).2) (by decide) (by decide) k) ?_
  show Gl p.tables e below PP (T1.setTop (mkF m 28 #[.val (.ref a1), .val (.int (0 : Int32)), .val (.int pv)] []))
  refine Gl.pre (fun _ k => XS.iloadN X1.here hx rfl (hb hby d15_28) rfl k) ?_
  show Gl p.tables e below PP (T1.setTop (mkF m 29 #[.val (.ref a1), .val (.int (0 : Int32)), .val (.int pv)] [(.int (0 : Int32))]))
  refine Gl.pre (fun _ k => XS.iconst X1.here hx rfl (hb hby d15_29) k) ?_
  show Gl p.tables e below PP (T1.setTop (mkF m 30 #[.val (.ref a1), .val (.int (0 : Int32)), .val (.int pv)] [(.int (1 : Int32)), (.int (0 : Int32))]))
  refine Gl.pre (fun _ k => XS.ishl X1.here hx rfl (hb hby d15_30) rfl k) ?_
  show Gl p.tables e below PP (T1.setTop (mkF m 31 #[.val (.ref a1), .val (.int (0 : Int32)), .val (.int pv)] [(.int ((0 : Int32) <<< ((1 : Int32) &&& 31)))]))
  rw [show ((0 : Int32) <<< ((1 : Int32) &&& 31)) = (0 : Int32) by decide]
  show Gl p.tables e below PP (T1.setTop (mkF m 31 #[.val (.ref a1), .val (.int (0 : Int32)), .val (.int pv)] [(.int (0 : Int32))]))
  refine Gl.pre (fun _ k => XS.istoreN X1.here hx rfl (hb hby d15_31) rfl (l' := #[.val (.ref a1), .val (.int (0 : Int32)), .val (.int pv)]) rfl k) ?_
  show Gl p.tables e below PP (T1.setTop (mkF m 32 #[.val (.ref a1), .val (.int (0 : Int32)), .val (.int pv)] []))
  refine Gl.pre (fun _ k => XS.aloadN X1.here hx rfl (hb hby d15_32) rfl rfl k) ?_
  show Gl p.tables e below PP (T1.setTop (mkF m 33 #[.val (.ref a1), .val (.int (0 : Int32)), .val (.int pv)] [(.ref a1)]))
  refine Gl.pre (fun _ k => XS.iloadN X1.here hx rfl (hb hby d15_33) rfl k) ?_
  show Gl p.tables e below PP (T1.setTop (mkF m 34 #[.val (.ref a1), .val (.int (0 : Int32)), .val (.int pv)] [(.int (0 : Int32)), (.ref a1)]))
  refine Gl.pre (fun _ k => XS.iinc X1.here hx rfl (hb hby d15_34) rfl (l' := #[.val (.ref a1), .val (.int (1 : Int32)), .val (.int pv)]) rfl k) ?_
  show Gl p.tables e below PP (T1.setTop (mkF m 37 #[.val (.ref a1), .val (.int (1 : Int32)), .val (.int pv)] [(.int (0 : Int32)), (.ref a1)]))
  refine Gl.pre (fun _ k => XS.iloadN X1.here hx rfl (hb hby d15_37) rfl k) ?_
  show Gl p.tables e below PP (T1.setTop (mkF m 38 #[.val (.ref a1), .val (.int (1 : Int32)), .val (.int pv)] [(.int pv), (.int (0 : Int32)), (.ref a1)]))
  obtain ⟨T2, X2, e2, st2⟩ := getS2 X1 hx hZ hown (host := "") (Or.inl (hw _ (List.mem_of_getElem? (i := 79) rfl))) Via.refl e1 (SHI.ext O_.2) (g := (mkF m 38 #[.val (.ref a1), .val (.int (1 : Int32)), .val (.int pv)] [(.int pv), (.int (0 : Int32)), (.ref a1)])) rfl (hb hby d15_38)
  refine Gl.pre (fun _ k => st2 _ k) ?_
  show Gl p.tables e below PP (T2.setTop (mkF m 41 #[.val (.ref a1), .val (.int (1 : Int32)), .val (.int pv)] [(.int (0 : Int32)), (.int pv), (.int (0 : Int32)), (.ref a1)]))
  refine Gl.pre (fun _ k => XS.ishr X2.here hx rfl (hb hby d15_41) rfl k) ?_
  show Gl p.tables e below PP (T2.setTop (mkF m 42 #[.val (.ref a1), .val (.int (1 : Int32)), .val (.int pv)] [(.int (pv >>> ((0 : Int32) &&& 31))), (.int (0 : Int32)), (.ref a1)]))
  refine Gl.pre (fun _ k => XS.i2b X2.here hx rfl (hb hby d15_42) rfl k) ?_
  show Gl p.tables e below PP (T2.setTop (mkF m 43 #[.val (.ref a1), .val (.int (1 : Int32)), .val (.int pv)] [(.int ((pv >>> ((0 : Int32) &&& 31)).toInt8.toInt32)), (.int (0 : Int32)), (.ref a1)]))
  obtain ⟨T3, h3, X3, e3, W3, V3, st3⟩ := own_stB X2 hx hZ e2 V_a1 (j := (0 : Int32)) (i := 0) (by decide) (by decide) (Nat.lt_of_succ_lt hlt) (g := (mkF m 43 #[.val (.ref a1), .val (.int (1 : Int32)), .val (.int pv)] [(.int ((pv >>> ((0 : Int32) &&& 31)).toInt8.toInt32)), (.int (0 : Int32)), (.ref a1)])) rfl rfl (hb hby d15_43)
  refine Gl.pre (fun _ k => st3 _ k) ?_
  have O_ := O_.wr W3 g_a1
  have Z3 : n0 ≤ h3.size := by rw [W3.size]; exact Z0
  have N3 := Fr.snoc X3 N0 g_a1
  have K3 := K0.wr W3 (Or.inl (List.mem_of_getElem? (i := 0) rfl))
  have V_a1 := V3
  show Gl p.tables e below PP (T3.setTop (mkF m 44 #[.val (.ref a1), .val (.int (1 : Int32)), .val (.int pv)] []))
  refine Gl.pre (fun _ k => XS.aloadN X3.here hx rfl (hb hby d15_44) rfl rfl k) ?_
  show Gl p.tables e below PP (T3.setTop (mkF m 45 #[.val (.ref a1), .val (.int (1 : Int32)), .val (.int pv)] [(.ref a1)]))
  refine Gl.pre (fun _ k => XS.iloadN X3.here hx rfl (hb hby d15_45) rfl k) ?_
  show Gl p.tables e below PP (T3.setTop (mkF m 46 #[.val (.ref a1), .val (.int (1 : Int32)), .val (.int pv)] [(.int (1 : Int32)), (.ref a1)]))
  refine Gl.pre (fun _ k => XS.iloadN X3.here hx rfl (hb hby d15_46) rfl k) ?_
  show Gl p.tables e below PP (T3.setTop (mkF m 47 #[.val (.ref a1), .val (.int (1 : Int32)), .val (.int pv)] [(.int pv), (.int (1 : Int32)), (.ref a1)]))
  obtain ⟨T4, X4, e4, st4⟩ := getS2 X3 hx hZ hown (host := "") (Or.inl (hw _ (List.mem_of_getElem? (i := 80) rfl))) Via.refl e3 (SLO.ext O_.2) (g := (mkF m 47 #[.val (.ref a1), .val (.int (1 : Int32)), .val (.int pv)] [(.int pv), (.int (1 : Int32)), (.ref a1)])) rfl (hb hby d15_47)
  refine Gl.pre (fun _ k => st4 _ k) ?_
  show Gl p.tables e below PP (T4.setTop (mkF m 50 #[.val (.ref a1), .val (.int (1 : Int32)), .val (.int pv)] [(.int (8 : Int32)), (.int pv), (.int (1 : Int32)), (.ref a1)]))
  refine Gl.pre (fun _ k => XS.ishr X4.here hx rfl (hb hby d15_50) rfl k) ?_
  show Gl p.tables e below PP (T4.setTop (mkF m 51 #[.val (.ref a1), .val (.int (1 : Int32)), .val (.int pv)] [(.int (pv >>> ((8 : Int32) &&& 31))), (.int (1 : Int32)), (.ref a1)]))
  refine Gl.pre (fun _ k => XS.i2b X4.here hx rfl (hb hby d15_51) rfl k) ?_
  show Gl p.tables e below PP (T4.setTop (mkF m 52 #[.val (.ref a1), .val (.int (1 : Int32)), .val (.int pv)] [(.int ((pv >>> ((8 : Int32) &&& 31)).toInt8.toInt32)), (.int (1 : Int32)), (.ref a1)]))
  obtain ⟨T5, h5, X5, e5, W5, V5, st5⟩ := own_stB X4 hx hZ e4 V_a1 (j := (1 : Int32)) (i := 1) (by decide) (by decide) (by rw [List.length_set]; exact hlt) (g := (mkF m 52 #[.val (.ref a1), .val (.int (1 : Int32)), .val (.int pv)] [(.int ((pv >>> ((8 : Int32) &&& 31)).toInt8.toInt32)), (.int (1 : Int32)), (.ref a1)])) rfl rfl (hb hby d15_52)
  refine Gl.pre (fun _ k => st5 _ k) ?_
  have O_ := O_.wr W5 g_a1
  have Z5 : n0 ≤ h5.size := by rw [W5.size]; exact Z3
  have N5 := Fr.snoc X5 N3 g_a1
  have K5 := K3.wr W5 (Or.inl (List.mem_of_getElem? (i := 0) rfl))
  have V_a1 := V5
  show Gl p.tables e below PP (T5.setTop (mkF m 53 #[.val (.ref a1), .val (.int (1 : Int32)), .val (.int pv)] []))
  rw [hPP]
  refine own_finV (Q := (Qpu0 Z a1 pv xs h0 n0)) X5 hx hlk Bd.returns (hb hby d15_53) ?_ (by decide) (by decide)
  show Qpu0 Z a1 pv xs h0 n0 _ T5.heap _
  rw [e5]
  exact ⟨rfl, N5, K5, V_a1⟩
theorem d12_0 : decode jdk_52_method_14_code 0 = .ok (.iload_n 2, 1) := by decide +kernel
theorem d12_1 : decode jdk_52_method_14_code 1 = .ok (.invokestatic 107, 3) := by decide +kernel
theorem d12_4 : decode jdk_52_method_14_code 4 = .ok (.astore_n 3, 1) := by decide +kernel
theorem d12_5 : decode jdk_52_method_14_code 5 = .ok (.iconst 0, 1) := by decide +kernel
theorem d12_6 : decode jdk_52_method_14_code 6 = .ok (.istore 4, 2) := by decide +kernel
theorem d12_8 : decode jdk_52_method_14_code 8 = .ok (.iload 4, 2) := by decide +kernel
theorem d12_10 : decode jdk_52_method_14_code 10 = .ok (.iload_n 2, 1) := by decide +kernel
theorem d12_11 : decode jdk_52_method_14_code 11 = .ok (.if_icmp .ge 21, 3) := by decide +kernel
theorem d12_14 : decode jdk_52_method_14_code 14 = .ok (.aload_n 3, 1) := by decide +kernel
theorem d12_15 : decode jdk_52_method_14_code 15 = .ok (.iload 4, 2) := by decide +kernel
theorem d12_17 : decode jdk_52_method_14_code 17 = .ok (.aload_n 0, 1) := by decide +kernel
theorem d12_18 : decode jdk_52_method_14_code 18 = .ok (.iload_n 1, 1) := by decide +kernel
theorem d12_19 : decode jdk_52_method_14_code 19 = .ok (.caload, 1) := by decide +kernel
theorem d12_20 : decode jdk_52_method_14_code 20 = .ok (.invokestatic 111, 3) := by decide +kernel
theorem d12_23 : decode jdk_52_method_14_code 23 = .ok (.iinc 1 1, 3) := by decide +kernel
theorem d12_26 : decode jdk_52_method_14_code 26 = .ok (.iinc 4 1, 3) := by decide +kernel
theorem d12_29 : decode jdk_52_method_14_code 29 = .ok (.goto (-21), 3) := by decide +kernel
theorem d12_32 : decode jdk_52_method_14_code 32 = .ok (.aload_n 3, 1) := by decide +kernel
theorem d12_33 : decode jdk_52_method_14_code 33 = .ok (.areturn, 1) := by decide +kernel
theorem pn_12 : plainName "java/lang/StringUTF16" = true := by first | (simp [plainName, overriddenIn]; done) | decide +kernel
theorem ef_tb1 (m : MethodId) (a1 : Addr) (c0 : Int32) : entryFrame m #[(.ref a1), (.int (0 : Int32)), (.int (1 : Int32))] 5 = mkF m 0 #[.val (.ref a1), .val (.int (0 : Int32)), .val (.int (1 : Int32)), .unset, .unset] [] := by first | (simp [entryFrame, mkF, argsToLocals, Value.category]; done) | rfl
def Qtb1 (Z : State) (a1 : Addr) (c0 : Int32) (h0 : Heap) (n0 : Nat) (v : Option Value) (h : Heap) (L : List Loc) : Prop := ∃ b : Addr, v = some (.ref b) ∧ Fr n0 L ∧ h0.size ≤ b ∧ Keep h0 h [] ∧ Bal Z h b .byte [(nar .byte ((c0 >>> ((0 : Int32) &&& 31)).toInt8.toInt32)), (nar .byte ((c0 >>> ((8 : Int32) &&& 31)).toInt8.toInt32))]
set_option maxRecDepth 65536 in
set_option maxHeartbeats 40000000 in
theorem rmtb1 (l : Launch) (Z : State) (a0 : Array Value) (hw : ∀ d ∈ tables_1, d.before a0 Z = true) (ws : List Jvm.Cond) (a1 : Addr) (c0 : Int32) (h0 : Heap) (n0 : Nat) (Z0 : n0 ≤ h0.size) (V_a1 : Bal Z h0 a1 .char [c0]) (SAD : Sta Z Z.heap "java/lang/StringUTF16" "$assertionsDisabled" "Z" (.int (1 : Int32))) (SHI : Sta Z Z.heap "java/lang/StringUTF16" "HI_BYTE_SHIFT" "I" (.int (0 : Int32))) (SLO : Sta Z Z.heap "java/lang/StringUTF16" "LO_BYTE_SHIFT" "I" (.int (8 : Int32))) (O_ : Old Z n0 h0) :
    MetFree l (⟨"java/lang/StringUTF16", "toBytes", "([CII)[B"⟩ : MethodName) (head1 (Jvm.Cond.code (⟨"java/lang/StringUTF16", "toBytes", "([CII)[B"⟩ : MethodName) jdk_52_method_14_code 5 (some (.array .byte)) :: ws) ({ frames := 2, cells := 1, slots := 2, locals := 24 } : Room)) (fun a U => a = #[(.ref a1), (.int (0 : Int32)), (.int (1 : Int32))] ∧ Z.Warmed39 U.vm ∧ U.heap = h0) (fun _ _ _ _ _ => True) (fun _ U o U' => ∃ v L, o = .returned v ∧ Qtb1 Z a1 c0 h0 n0 v U'.heap L ∧ FrameEnd U o U' L ({ frames := 2, cells := 1, slots := 2, locals := 24 } : Room).cells ({ frames := 2, cells := 1, slots := 2, locals := 24 } : Room).slots) := by
  refine MetFree.of_bodySF (plainFor_of_name pn_12) hisR ?_
  intro p e s m args below meth c s₁ Bd hml0 hP hK
  obtain ⟨rfl, hZ, hh⟩ := hP
  have hx := Bd.exec
  have hby := Bd.bytes
  have hlk : meth.locks = false := BodyLoose.notSynchronized Bd
  have hml : c.maxLocals = 5 := hml0
  have hown : s.vm.findClass "java/lang/StringUTF16" = some m.cls := findClass_of_methodNamed Bd.named
  have hnm := (name_of_methodNamed Bd.named Bd.method).1
  have X0 : Stand p l e ({ frames := 2, cells := 1, slots := 2, locals := 24 } : Room) s m #[(.ref a1), (.int (0 : Int32)), (.int (1 : Int32))] below meth c s₁ [] 0 0 := Stand.of_body Bd
  have e0 : s₁.heap = h0 := by rw [← hh, Bd.state]; rfl
  have N0 := Fr.nil n0
  show Gl p.tables e below (fun (o : Outcome) (U' : State) => ∃ v L, o = .returned v ∧ Qtb1 Z a1 c0 h0 n0 v U'.heap L ∧ FrameEnd s o U' L ({ frames := 2, cells := 1, slots := 2, locals := 24 } : Room).cells ({ frames := 2, cells := 1, slots := 2, locals := 24 } : Room).slots) _
  refine Gl.pre (fun t k => castTop (ef_tb1 m a1 c0) k) ?_
  obtain ⟨PP, hPP⟩ : ∃ P : Outcome → State → Prop, P = (fun (o : Outcome) (U' : State) => ∃ v L, o = .returned v ∧ Qtb1 Z a1 c0 h0 n0 v U'.heap L ∧ FrameEnd s o U' L ({ frames := 2, cells := 1, slots := 2, locals := 24 } : Room).cells ({ frames := 2, cells := 1, slots := 2, locals := 24 } : Room).slots) := ⟨_, rfl⟩
  rw [← hPP]
  have K0 : Keep h0 h0 [] := Keep.refl h0 _
  show Gl p.tables e below PP (s₁.setTop (mkF m 0 #[.val (.ref a1), .val (.int (0 : Int32)), .val (.int (1 : Int32)), .unset, .unset] []))
  refine Gl.pre (fun _ k => XS.iloadN X0.here hx rfl (hb hby d12_0) rfl k) ?_
  show Gl p.tables e below PP (s₁.setTop (mkF m 1 #[.val (.ref a1), .val (.int (0 : Int32)), .val (.int (1 : Int32)), .unset, .unset] [(.int (1 : Int32))]))
  obtain ⟨_, _, ⟨T1, L1, k1, n1⟩, -, X1, ⟨Lc1, hQ1, l1, y1, z1⟩, st1⟩ := Jvm.LawKit.callS X0 hx (y := (⟨"java/lang/StringUTF16", "newBytesFor", "(I)[B"⟩ : MethodName)) hown (mvT hZ (hw _ (List.mem_of_getElem? (i := 68) rfl))) (mvT hZ (hw _ (List.mem_of_getElem? (i := 69) rfl))) (mvT hZ (hw _ (List.mem_of_getElem? (i := 57) rfl))) (mvT hZ (hw _ (List.mem_of_getElem? (i := 70) rfl))) (by decide) (backOf (W := 0) (rmnf1 l Z a0 hw []  h0 n0 Z0 ) hZ (hw _ (List.mem_of_getElem? (i := 70) rfl)) (hw _ (List.mem_of_getElem? (i := 57) rfl)) (by decide) (by decide)) (g := (mkF m 1 #[.val (.ref a1), .val (.int (0 : Int32)), .val (.int (1 : Int32)), .unset, .unset] [(.int (1 : Int32))])) rfl (by rw [hml]; rfl) (argsL := [(.int (1 : Int32))]) (rest := []) (lenOf pd_1 rfl) rfl (by show 2 * 0 + _ ≤ _; exact Nat.le_of_eq rfl) (hb hby d12_1) (fun _ _ => ⟨rfl, e0, (by decide : 0 + 1 ≤ _), (by decide : 0 + 2 ≤ _)⟩)
  dsimp only [Pt.U, Pt.locs, Pt.cells, Pt.slots] at X1 l1 y1 z1 st1 hQ1
  subst l1 y1 z1
  obtain ⟨bn1, rfl, N1q, hz1, K1, V1q⟩ := hQ1
  have N1 := Fr.app N0 N1q
  refine Gl.pre (fun _ k => st1 _ k) ?_
  have own_ne_a1_bn1 : a1 ≠ bn1 := Nat.ne_of_lt (Nat.lt_of_lt_of_le V_a1.lt hz1)
  have own_ne_bn1_a1 := own_ne_a1_bn1.symm
  have g_bn1 : n0 ≤ bn1 := Nat.le_trans Z0 hz1
  have sz_bn1 : h0.size ≤ bn1 := Nat.le_trans K0.1 hz1
  have V_a1 := V_a1.keep K1 nin0
  have O_ := O_.keep K1 all0
  have Z1 : n0 ≤ T1.heap.size := Nat.le_trans Z0 K1.1
  have K1k := K0.trans K1 all0
  have V_bn1 := V1q
  show Gl p.tables e below PP (T1.setTop (mkF m 4 #[.val (.ref a1), .val (.int (0 : Int32)), .val (.int (1 : Int32)), .unset, .unset] [(.ref bn1)]))
  refine Gl.pre (fun _ k => XS.astoreN X1.here hx rfl (hb hby d12_4) rfl rfl (l' := #[.val (.ref a1), .val (.int (0 : Int32)), .val (.int (1 : Int32)), .val (.ref bn1), .unset]) rfl k) ?_
  show Gl p.tables e below PP (T1.setTop (mkF m 5 #[.val (.ref a1), .val (.int (0 : Int32)), .val (.int (1 : Int32)), .val (.ref bn1), .unset] []))
  refine Gl.pre (fun _ k => XS.iconst X1.here hx rfl (hb hby d12_5) k) ?_
  show Gl p.tables e below PP (T1.setTop (mkF m 6 #[.val (.ref a1), .val (.int (0 : Int32)), .val (.int (1 : Int32)), .val (.ref bn1), .unset] [(.int (0 : Int32))]))
  refine Gl.pre (fun _ k => XS.istore X1.here hx rfl (hb hby d12_6) rfl (l' := #[.val (.ref a1), .val (.int (0 : Int32)), .val (.int (1 : Int32)), .val (.ref bn1), .val (.int (0 : Int32))]) rfl k) ?_
  show Gl p.tables e below PP (T1.setTop (mkF m 8 #[.val (.ref a1), .val (.int (0 : Int32)), .val (.int (1 : Int32)), .val (.ref bn1), .val (.int (0 : Int32))] []))
  refine Gl.pre (fun _ k => XS.iload X1.here hx rfl (hb hby d12_8) rfl k) ?_
  show Gl p.tables e below PP (T1.setTop (mkF m 10 #[.val (.ref a1), .val (.int (0 : Int32)), .val (.int (1 : Int32)), .val (.ref bn1), .val (.int (0 : Int32))] [(.int (0 : Int32))]))
  refine Gl.pre (fun _ k => XS.iloadN X1.here hx rfl (hb hby d12_10) rfl k) ?_
  show Gl p.tables e below PP (T1.setTop (mkF m 11 #[.val (.ref a1), .val (.int (0 : Int32)), .val (.int (1 : Int32)), .val (.ref bn1), .val (.int (0 : Int32))] [(.int (1 : Int32)), (.int (0 : Int32))]))
  refine Gl.pre (fun _ k => XS.icmpNo X1.here hx rfl (hb hby d12_11) rfl (tlt (show (0 : Int32) < (1 : Int32) from (by decide))).2.1 k) ?_
  show Gl p.tables e below PP (T1.setTop (mkF m 14 #[.val (.ref a1), .val (.int (0 : Int32)), .val (.int (1 : Int32)), .val (.ref bn1), .val (.int (0 : Int32))] []))
  refine Gl.pre (fun _ k => XS.aloadN X1.here hx rfl (hb hby d12_14) rfl rfl k) ?_
  show Gl p.tables e below PP (T1.setTop (mkF m 15 #[.val (.ref a1), .val (.int (0 : Int32)), .val (.int (1 : Int32)), .val (.ref bn1), .val (.int (0 : Int32))] [(.ref bn1)]))
  refine Gl.pre (fun _ k => XS.iload X1.here hx rfl (hb hby d12_15) rfl k) ?_
  show Gl p.tables e below PP (T1.setTop (mkF m 17 #[.val (.ref a1), .val (.int (0 : Int32)), .val (.int (1 : Int32)), .val (.ref bn1), .val (.int (0 : Int32))] [(.int (0 : Int32)), (.ref bn1)]))
  refine Gl.pre (fun _ k => XS.aloadN X1.here hx rfl (hb hby d12_17) rfl rfl k) ?_
  show Gl p.tables e below PP (T1.setTop (mkF m 18 #[.val (.ref a1), .val (.int (0 : Int32)), .val (.int (1 : Int32)), .val (.ref bn1), .val (.int (0 : Int32))] [(.ref a1), (.int (0 : Int32)), (.ref bn1)]))
  refine Gl.pre (fun _ k => XS.iloadN X1.here hx rfl (hb hby d12_18) rfl k) ?_
  show Gl p.tables e below PP (T1.setTop (mkF m 19 #[.val (.ref a1), .val (.int (0 : Int32)), .val (.int (1 : Int32)), .val (.ref bn1), .val (.int (0 : Int32))] [(.int (0 : Int32)), (.ref a1), (.int (0 : Int32)), (.ref bn1)]))
  refine Gl.pre (fun _ k => own_ldC X1 hx hZ rfl V_a1 (j := (0 : Int32)) (i := 0) (by decide) (by decide) (Nat.lt_of_lt_of_eq (by decide : 0 < 1) rfl) (v := c0) rfl (g := (mkF m 19 #[.val (.ref a1), .val (.int (0 : Int32)), .val (.int (1 : Int32)), .val (.ref bn1), .val (.int (0 : Int32))] [(.int (0 : Int32)), (.ref a1), (.int (0 : Int32)), (.ref bn1)])) rfl rfl (hb hby d12_19) _ k) ?_
  show Gl p.tables e below PP (T1.setTop (mkF m 20 #[.val (.ref a1), .val (.int (0 : Int32)), .val (.int (1 : Int32)), .val (.ref bn1), .val (.int (0 : Int32))] [(.int c0), (.int (0 : Int32)), (.ref bn1)]))
  obtain ⟨_, _, ⟨T2, L2, k2, n2⟩, -, X2, ⟨Lc2, hQ2, l2, y2, z2⟩, st2⟩ := Jvm.LawKit.callS X1 hx (y := (⟨"java/lang/StringUTF16", "putChar", "([BII)V"⟩ : MethodName)) hown (mvT hZ (hw _ (List.mem_of_getElem? (i := 75) rfl))) (mvT hZ (hw _ (List.mem_of_getElem? (i := 76) rfl))) (mvT hZ (hw _ (List.mem_of_getElem? (i := 57) rfl))) (mvT hZ (hw _ (List.mem_of_getElem? (i := 77) rfl))) (by decide) (backOf (W := 0) (rmpu0 l Z a0 hw [] bn1 c0 ([(0 : Int32), (0 : Int32)]) T1.heap n0 Z1 V_bn1 g_bn1 (Nat.lt_of_lt_of_eq (by decide : 1 < 2) rfl) SAD SHI SLO O_) hZ (hw _ (List.mem_of_getElem? (i := 77) rfl)) (hw _ (List.mem_of_getElem? (i := 57) rfl)) (by decide) (by decide)) (g := (mkF m 20 #[.val (.ref a1), .val (.int (0 : Int32)), .val (.int (1 : Int32)), .val (.ref bn1), .val (.int (0 : Int32))] [(.int c0), (.int (0 : Int32)), (.ref bn1)])) rfl (by rw [hml]; rfl) (argsL := [(.ref bn1), (.int (0 : Int32)), (.int c0)]) (rest := []) (lenOf pd_2 rfl) rfl (by show 2 * 0 + _ ≤ _; exact Nat.le_of_eq rfl) (hb hby d12_20) (fun _ _ => ⟨rfl, rfl, (by decide : 1 + 0 ≤ _), (by decide : 2 + 0 ≤ _)⟩)
  dsimp only [Pt.U, Pt.locs, Pt.cells, Pt.slots] at X2 l2 y2 z2 st2 hQ2
  subst l2 y2 z2
  obtain ⟨rfl, N2q, K2, V2q⟩ := hQ2
  have N2 := Fr.app N1 N2q
  refine Gl.pre (fun _ k => st2 _ k) ?_
  have V_a1 := V_a1.keep K2 (ninS (own_ne_a1_bn1) nin0)
  have O_ := O_.keep K2 (allS g_bn1 all0)
  have Z2 : n0 ≤ T2.heap.size := Nat.le_trans Z1 K2.1
  have K2k := K1k.trans K2 (allS (Or.inr sz_bn1) all0)
  have V_bn1 : Bal Z T2.heap bn1 .byte [(nar .byte ((c0 >>> ((0 : Int32) &&& 31)).toInt8.toInt32)), (nar .byte ((c0 >>> ((8 : Int32) &&& 31)).toInt8.toInt32))] := V2q
  show Gl p.tables e below PP (T2.setTop (mkF m 23 #[.val (.ref a1), .val (.int (0 : Int32)), .val (.int (1 : Int32)), .val (.ref bn1), .val (.int (0 : Int32))] []))
  refine Gl.pre (fun _ k => XS.iinc X2.here hx rfl (hb hby d12_23) rfl (l' := #[.val (.ref a1), .val (.int (1 : Int32)), .val (.int (1 : Int32)), .val (.ref bn1), .val (.int (0 : Int32))]) rfl k) ?_
  show Gl p.tables e below PP (T2.setTop (mkF m 26 #[.val (.ref a1), .val (.int (1 : Int32)), .val (.int (1 : Int32)), .val (.ref bn1), .val (.int (0 : Int32))] []))
  refine Gl.pre (fun _ k => XS.iinc X2.here hx rfl (hb hby d12_26) rfl (l' := #[.val (.ref a1), .val (.int (1 : Int32)), .val (.int (1 : Int32)), .val (.ref bn1), .val (.int (1 : Int32))]) rfl k) ?_
  show Gl p.tables e below PP (T2.setTop (mkF m 29 #[.val (.ref a1), .val (.int (1 : Int32)), .val (.int (1 : Int32)), .val (.ref bn1), .val (.int (1 : Int32))] []))
  refine Gl.pre (fun _ k => XS.goto X2.here hx rfl (pc0 := 29) (pc' := 8) rfl (hb hby d12_29) (by decide) (by decide) k) ?_
  show Gl p.tables e below PP (T2.setTop (mkF m 8 #[.val (.ref a1), .val (.int (1 : Int32)), .val (.int (1 : Int32)), .val (.ref bn1), .val (.int (1 : Int32))] []))
  refine Gl.pre (fun _ k => XS.iload X2.here hx rfl (hb hby d12_8) rfl k) ?_
  show Gl p.tables e below PP (T2.setTop (mkF m 10 #[.val (.ref a1), .val (.int (1 : Int32)), .val (.int (1 : Int32)), .val (.ref bn1), .val (.int (1 : Int32))] [(.int (1 : Int32))]))
  refine Gl.pre (fun _ k => XS.iloadN X2.here hx rfl (hb hby d12_10) rfl k) ?_
  show Gl p.tables e below PP (T2.setTop (mkF m 11 #[.val (.ref a1), .val (.int (1 : Int32)), .val (.int (1 : Int32)), .val (.ref bn1), .val (.int (1 : Int32))] [(.int (1 : Int32)), (.int (1 : Int32))]))
  refine Gl.pre (fun _ k => XS.icmpYes X2.here hx rfl (pc0 := 11) (pc' := 32) rfl (hb hby d12_11) rfl (flt (show ¬ ((1 : Int32) < (1 : Int32)) from (by decide))).2.1 (by decide) (by decide) k) ?_
  show Gl p.tables e below PP (T2.setTop (mkF m 32 #[.val (.ref a1), .val (.int (1 : Int32)), .val (.int (1 : Int32)), .val (.ref bn1), .val (.int (1 : Int32))] []))
  refine Gl.pre (fun _ k => XS.aloadN X2.here hx rfl (hb hby d12_32) rfl rfl k) ?_
  show Gl p.tables e below PP (T2.setTop (mkF m 33 #[.val (.ref a1), .val (.int (1 : Int32)), .val (.int (1 : Int32)), .val (.ref bn1), .val (.int (1 : Int32))] [(.ref bn1)]))
  rw [hPP]
  refine own_finA (Q := (Qtb1 Z a1 c0 h0 n0)) X2 hx hlk Bd.returns rfl rfl (hb hby d12_33) ?_ (by decide) (by decide)
  show Qtb1 Z a1 c0 h0 n0 _ T2.heap _
  exact ⟨bn1, rfl, N2, sz_bn1, K2k, V_bn1⟩
theorem d16_0 : decode jdk_52_method_5_code 0 = .ok (.getstatic 44, 3) := by decide +kernel
theorem d16_3 : decode jdk_52_method_5_code 3 = .ok (.ifCond .ne 25, 3) := by decide +kernel
theorem d16_6 : decode jdk_52_method_5_code 6 = .ok (.iload_n 1, 1) := by decide +kernel
theorem d16_7 : decode jdk_52_method_5_code 7 = .ok (.ifCond .lt 11, 3) := by decide +kernel
theorem d16_10 : decode jdk_52_method_5_code 10 = .ok (.iload_n 1, 1) := by decide +kernel
theorem d16_11 : decode jdk_52_method_5_code 11 = .ok (.aload_n 0, 1) := by decide +kernel
theorem d16_12 : decode jdk_52_method_5_code 12 = .ok (.invokestatic 48, 3) := by decide +kernel
theorem d16_15 : decode jdk_52_method_5_code 15 = .ok (.if_icmp .lt 13, 3) := by decide +kernel
theorem d16_18 : decode jdk_52_method_5_code 18 = .ok (.new 52, 3) := by decide +kernel
theorem d16_21 : decode jdk_52_method_5_code 21 = .ok (.dup, 1) := by decide +kernel
theorem d16_22 : decode jdk_52_method_5_code 22 = .ok (.ldc 54, 2) := by decide +kernel
theorem d16_24 : decode jdk_52_method_5_code 24 = .ok (.invokespecial 56, 3) := by decide +kernel
theorem d16_27 : decode jdk_52_method_5_code 27 = .ok (.athrow, 1) := by decide +kernel
theorem d16_28 : decode jdk_52_method_5_code 28 = .ok (.iload_n 1, 1) := by decide +kernel
theorem d16_29 : decode jdk_52_method_5_code 29 = .ok (.iconst 1, 1) := by decide +kernel
theorem d16_30 : decode jdk_52_method_5_code 30 = .ok (.ishl, 1) := by decide +kernel
theorem d16_31 : decode jdk_52_method_5_code 31 = .ok (.istore_n 1, 1) := by decide +kernel
theorem d16_32 : decode jdk_52_method_5_code 32 = .ok (.aload_n 0, 1) := by decide +kernel
theorem d16_33 : decode jdk_52_method_5_code 33 = .ok (.iload_n 1, 1) := by decide +kernel
theorem d16_34 : decode jdk_52_method_5_code 34 = .ok (.iinc 1 1, 3) := by decide +kernel
theorem d16_37 : decode jdk_52_method_5_code 37 = .ok (.baload, 1) := by decide +kernel
theorem d16_38 : decode jdk_52_method_5_code 38 = .ok (.sipush 255, 3) := by decide +kernel
theorem d16_41 : decode jdk_52_method_5_code 41 = .ok (.iand, 1) := by decide +kernel
theorem d16_42 : decode jdk_52_method_5_code 42 = .ok (.getstatic 59, 3) := by decide +kernel
theorem d16_45 : decode jdk_52_method_5_code 45 = .ok (.ishl, 1) := by decide +kernel
theorem d16_46 : decode jdk_52_method_5_code 46 = .ok (.aload_n 0, 1) := by decide +kernel
theorem d16_47 : decode jdk_52_method_5_code 47 = .ok (.iload_n 1, 1) := by decide +kernel
theorem d16_48 : decode jdk_52_method_5_code 48 = .ok (.baload, 1) := by decide +kernel
theorem d16_49 : decode jdk_52_method_5_code 49 = .ok (.sipush 255, 3) := by decide +kernel
theorem d16_52 : decode jdk_52_method_5_code 52 = .ok (.iand, 1) := by decide +kernel
theorem d16_53 : decode jdk_52_method_5_code 53 = .ok (.getstatic 63, 3) := by decide +kernel
theorem d16_56 : decode jdk_52_method_5_code 56 = .ok (.ishl, 1) := by decide +kernel
theorem d16_57 : decode jdk_52_method_5_code 57 = .ok (.ior, 1) := by decide +kernel
theorem d16_58 : decode jdk_52_method_5_code 58 = .ok (.i2c, 1) := by decide +kernel
theorem d16_59 : decode jdk_52_method_5_code 59 = .ok (.ireturn, 1) := by decide +kernel
theorem pn_16 : plainName "java/lang/StringUTF16" = true := by first | (simp [plainName, overriddenIn]; done) | decide +kernel
theorem ef_gc1_0 (m : MethodId) (a1 : Addr) (y0 : Int32) (y1 : Int32) : entryFrame m #[(.ref a1), (.int (0 : Int32))] 2 = mkF m 0 #[.val (.ref a1), .val (.int (0 : Int32))] [] := by first | (simp [entryFrame, mkF, argsToLocals, Value.category]; done) | rfl
def Qgc1_0 (Z : State) (a1 : Addr) (y0 : Int32) (y1 : Int32) (h0 : Heap) (n0 : Nat) (v : Option Value) (h : Heap) (L : List Loc) : Prop := v = some (.int (nar .char ((((y0 &&& (255 : Int32)) <<< ((0 : Int32) &&& 31)) ||| ((y1 &&& (255 : Int32)) <<< ((8 : Int32) &&& 31))).toUInt32.toUInt16.toUInt32.toInt32))) ∧ Fr n0 L ∧ h = h0
set_option maxRecDepth 65536 in
set_option maxHeartbeats 40000000 in
theorem rmgc1_0 (l : Launch) (Z : State) (a0 : Array Value) (hw : ∀ d ∈ tables_1, d.before a0 Z = true) (ws : List Jvm.Cond) (a1 : Addr) (y0 : Int32) (y1 : Int32) (h0 : Heap) (n0 : Nat) (Z0 : n0 ≤ h0.size) (V_a1 : Bal Z h0 a1 .byte [y0, y1]) (SAD : Sta Z Z.heap "java/lang/StringUTF16" "$assertionsDisabled" "Z" (.int (1 : Int32))) (SHI : Sta Z Z.heap "java/lang/StringUTF16" "HI_BYTE_SHIFT" "I" (.int (0 : Int32))) (SLO : Sta Z Z.heap "java/lang/StringUTF16" "LO_BYTE_SHIFT" "I" (.int (8 : Int32))) (O_ : Old Z n0 h0) :
    MetFree l (⟨"java/lang/StringUTF16", "getChar", "([BI)C"⟩ : MethodName) (head1 (Jvm.Cond.code (⟨"java/lang/StringUTF16", "getChar", "([BI)C"⟩ : MethodName) jdk_52_method_5_code 2 (some .char) :: ws) ({ frames := 0, cells := 0, slots := 0, locals := 0 } : Room)) (fun a U => a = #[(.ref a1), (.int (0 : Int32))] ∧ Z.Warmed39 U.vm ∧ U.heap = h0) (fun _ _ _ _ _ => True) (fun _ U o U' => ∃ v L, o = .returned v ∧ Qgc1_0 Z a1 y0 y1 h0 n0 v U'.heap L ∧ FrameEnd U o U' L ({ frames := 0, cells := 0, slots := 0, locals := 0 } : Room).cells ({ frames := 0, cells := 0, slots := 0, locals := 0 } : Room).slots) := by
  refine MetFree.of_bodySF (plainFor_of_name pn_16) hisR ?_
  intro p e s m args below meth c s₁ Bd hml0 hP hK
  obtain ⟨rfl, hZ, hh⟩ := hP
  have hx := Bd.exec
  have hby := Bd.bytes
  have hlk : meth.locks = false := BodyLoose.notSynchronized Bd
  have hml : c.maxLocals = 2 := hml0
  have hown : s.vm.findClass "java/lang/StringUTF16" = some m.cls := findClass_of_methodNamed Bd.named
  have hnm := (name_of_methodNamed Bd.named Bd.method).1
  have X0 : Stand p l e ({ frames := 0, cells := 0, slots := 0, locals := 0 } : Room) s m #[(.ref a1), (.int (0 : Int32))] below meth c s₁ [] 0 0 := Stand.of_body Bd
  have e0 : s₁.heap = h0 := by rw [← hh, Bd.state]; rfl
  have N0 := Fr.nil n0
  show Gl p.tables e below (fun (o : Outcome) (U' : State) => ∃ v L, o = .returned v ∧ Qgc1_0 Z a1 y0 y1 h0 n0 v U'.heap L ∧ FrameEnd s o U' L ({ frames := 0, cells := 0, slots := 0, locals := 0 } : Room).cells ({ frames := 0, cells := 0, slots := 0, locals := 0 } : Room).slots) _
  refine Gl.pre (fun t k => castTop (ef_gc1_0 m a1 y0 y1) k) ?_
  obtain ⟨PP, hPP⟩ : ∃ P : Outcome → State → Prop, P = (fun (o : Outcome) (U' : State) => ∃ v L, o = .returned v ∧ Qgc1_0 Z a1 y0 y1 h0 n0 v U'.heap L ∧ FrameEnd s o U' L ({ frames := 0, cells := 0, slots := 0, locals := 0 } : Room).cells ({ frames := 0, cells := 0, slots := 0, locals := 0 } : Room).slots) := ⟨_, rfl⟩
  rw [← hPP]
  show Gl p.tables e below PP (s₁.setTop (mkF m 0 #[.val (.ref a1), .val (.int (0 : Int32))] []))
  obtain ⟨T1, X1, e1, st1⟩ := getS2 X0 hx hZ hown (host := "") (Or.inl (hw _ (List.mem_of_getElem? (i := 78) rfl))) Via.refl e0 (SAD.ext O_.2) (g := (mkF m 0 #[.val (.ref a1), .val (.int (0 : Int32))] [])) rfl (hb hby d16_0)
  refine Gl.pre (fun _ k => st1 _ k) ?_
  show Gl p.tables e below PP (T1.setTop (mkF m 3 #[.val (.ref a1), .val (.int (0 : Int32))] [(.int (1 : Int32))]))
  refine Gl.pre (fun _ k => XS.ifYes X1.here hx rfl (pc0 := 3) (pc' := 28) rfl (hb hby d16_3) rfl ((if0 _ _).trans (feq (show ¬ ((1 : Int32) = (0 : Int32)) from (by decide))).2) (by decide) (by decide) k) ?_
  show Gl p.tables e below PP (T1.setTop (mkF m 28 #[.val (.ref a1), .val (.int (0 : Int32))] []))
  refine Gl.pre (fun _ k => XS.iloadN X1.here hx rfl (hb hby d16_28) rfl k) ?_
  show Gl p.tables e below PP (T1.setTop (mkF m 29 #[.val (.ref a1), .val (.int (0 : Int32))] [(.int (0 : Int32))]))
  refine Gl.pre (fun _ k => XS.iconst X1.here hx rfl (hb hby d16_29) k) ?_
  show Gl p.tables e below PP (T1.setTop (mkF m 30 #[.val (.ref a1), .val (.int (0 : Int32))] [(.int (1 : Int32)), (.int (0 : Int32))]))
  refine Gl.pre (fun _ k => XS.ishl X1.here hx rfl (hb hby d16_30) rfl k) ?_
  show Gl p.tables e below PP (T1.setTop (mkF m 31 #[.val (.ref a1), .val (.int (0 : Int32))] [(.int ((0 : Int32) <<< ((1 : Int32) &&& 31)))]))
  rw [show ((0 : Int32) <<< ((1 : Int32) &&& 31)) = (0 : Int32) by decide]
  show Gl p.tables e below PP (T1.setTop (mkF m 31 #[.val (.ref a1), .val (.int (0 : Int32))] [(.int (0 : Int32))]))
  refine Gl.pre (fun _ k => XS.istoreN X1.here hx rfl (hb hby d16_31) rfl (l' := #[.val (.ref a1), .val (.int (0 : Int32))]) rfl k) ?_
  show Gl p.tables e below PP (T1.setTop (mkF m 32 #[.val (.ref a1), .val (.int (0 : Int32))] []))
  refine Gl.pre (fun _ k => XS.aloadN X1.here hx rfl (hb hby d16_32) rfl rfl k) ?_
  show Gl p.tables e below PP (T1.setTop (mkF m 33 #[.val (.ref a1), .val (.int (0 : Int32))] [(.ref a1)]))
  refine Gl.pre (fun _ k => XS.iloadN X1.here hx rfl (hb hby d16_33) rfl k) ?_
  show Gl p.tables e below PP (T1.setTop (mkF m 34 #[.val (.ref a1), .val (.int (0 : Int32))] [(.int (0 : Int32)), (.ref a1)]))
  refine Gl.pre (fun _ k => XS.iinc X1.here hx rfl (hb hby d16_34) rfl (l' := #[.val (.ref a1), .val (.int (1 : Int32))]) rfl k) ?_
  show Gl p.tables e below PP (T1.setTop (mkF m 37 #[.val (.ref a1), .val (.int (1 : Int32))] [(.int (0 : Int32)), (.ref a1)]))
  refine Gl.pre (fun _ k => own_ldB X1 hx hZ e1 V_a1 (j := (0 : Int32)) (i := 0) (by decide) (by decide) (Nat.lt_of_lt_of_eq (by decide : 0 < 2) rfl) (v := y0) rfl (g := (mkF m 37 #[.val (.ref a1), .val (.int (1 : Int32))] [(.int (0 : Int32)), (.ref a1)])) rfl rfl (hb hby d16_37) _ k) ?_
  show Gl p.tables e below PP (T1.setTop (mkF m 38 #[.val (.ref a1), .val (.int (1 : Int32))] [(.int y0)]))
  refine Gl.pre (fun _ k => XS.sipush X1.here hx rfl (hb hby d16_38) k) ?_
  show Gl p.tables e below PP (T1.setTop (mkF m 41 #[.val (.ref a1), .val (.int (1 : Int32))] [(.int (255 : Int32)), (.int y0)]))
  refine Gl.pre (fun _ k => XS.iand X1.here hx rfl (hb hby d16_41) rfl k) ?_
  show Gl p.tables e below PP (T1.setTop (mkF m 42 #[.val (.ref a1), .val (.int (1 : Int32))] [(.int (y0 &&& (255 : Int32)))]))
  obtain ⟨T2, X2, e2, st2⟩ := getS2 X1 hx hZ hown (host := "") (Or.inl (hw _ (List.mem_of_getElem? (i := 79) rfl))) Via.refl e1 (SHI.ext O_.2) (g := (mkF m 42 #[.val (.ref a1), .val (.int (1 : Int32))] [(.int (y0 &&& (255 : Int32)))])) rfl (hb hby d16_42)
  refine Gl.pre (fun _ k => st2 _ k) ?_
  show Gl p.tables e below PP (T2.setTop (mkF m 45 #[.val (.ref a1), .val (.int (1 : Int32))] [(.int (0 : Int32)), (.int (y0 &&& (255 : Int32)))]))
  refine Gl.pre (fun _ k => XS.ishl X2.here hx rfl (hb hby d16_45) rfl k) ?_
  show Gl p.tables e below PP (T2.setTop (mkF m 46 #[.val (.ref a1), .val (.int (1 : Int32))] [(.int ((y0 &&& (255 : Int32)) <<< ((0 : Int32) &&& 31)))]))
  refine Gl.pre (fun _ k => XS.aloadN X2.here hx rfl (hb hby d16_46) rfl rfl k) ?_
  show Gl p.tables e below PP (T2.setTop (mkF m 47 #[.val (.ref a1), .val (.int (1 : Int32))] [(.ref a1), (.int ((y0 &&& (255 : Int32)) <<< ((0 : Int32) &&& 31)))]))
  refine Gl.pre (fun _ k => XS.iloadN X2.here hx rfl (hb hby d16_47) rfl k) ?_
  show Gl p.tables e below PP (T2.setTop (mkF m 48 #[.val (.ref a1), .val (.int (1 : Int32))] [(.int (1 : Int32)), (.ref a1), (.int ((y0 &&& (255 : Int32)) <<< ((0 : Int32) &&& 31)))]))
  refine Gl.pre (fun _ k => own_ldB X2 hx hZ e2 V_a1 (j := (1 : Int32)) (i := 1) (by decide) (by decide) (Nat.lt_of_lt_of_eq (by decide : 1 < 2) rfl) (v := y1) rfl (g := (mkF m 48 #[.val (.ref a1), .val (.int (1 : Int32))] [(.int (1 : Int32)), (.ref a1), (.int ((y0 &&& (255 : Int32)) <<< ((0 : Int32) &&& 31)))])) rfl rfl (hb hby d16_48) _ k) ?_
  show Gl p.tables e below PP (T2.setTop (mkF m 49 #[.val (.ref a1), .val (.int (1 : Int32))] [(.int y1), (.int ((y0 &&& (255 : Int32)) <<< ((0 : Int32) &&& 31)))]))
  refine Gl.pre (fun _ k => XS.sipush X2.here hx rfl (hb hby d16_49) k) ?_
  show Gl p.tables e below PP (T2.setTop (mkF m 52 #[.val (.ref a1), .val (.int (1 : Int32))] [(.int (255 : Int32)), (.int y1), (.int ((y0 &&& (255 : Int32)) <<< ((0 : Int32) &&& 31)))]))
  refine Gl.pre (fun _ k => XS.iand X2.here hx rfl (hb hby d16_52) rfl k) ?_
  show Gl p.tables e below PP (T2.setTop (mkF m 53 #[.val (.ref a1), .val (.int (1 : Int32))] [(.int (y1 &&& (255 : Int32))), (.int ((y0 &&& (255 : Int32)) <<< ((0 : Int32) &&& 31)))]))
  obtain ⟨T3, X3, e3, st3⟩ := getS2 X2 hx hZ hown (host := "") (Or.inl (hw _ (List.mem_of_getElem? (i := 80) rfl))) Via.refl e2 (SLO.ext O_.2) (g := (mkF m 53 #[.val (.ref a1), .val (.int (1 : Int32))] [(.int (y1 &&& (255 : Int32))), (.int ((y0 &&& (255 : Int32)) <<< ((0 : Int32) &&& 31)))])) rfl (hb hby d16_53)
  refine Gl.pre (fun _ k => st3 _ k) ?_
  show Gl p.tables e below PP (T3.setTop (mkF m 56 #[.val (.ref a1), .val (.int (1 : Int32))] [(.int (8 : Int32)), (.int (y1 &&& (255 : Int32))), (.int ((y0 &&& (255 : Int32)) <<< ((0 : Int32) &&& 31)))]))
  refine Gl.pre (fun _ k => XS.ishl X3.here hx rfl (hb hby d16_56) rfl k) ?_
  show Gl p.tables e below PP (T3.setTop (mkF m 57 #[.val (.ref a1), .val (.int (1 : Int32))] [(.int ((y1 &&& (255 : Int32)) <<< ((8 : Int32) &&& 31))), (.int ((y0 &&& (255 : Int32)) <<< ((0 : Int32) &&& 31)))]))
  refine Gl.pre (fun _ k => XS.ior X3.here hx rfl (hb hby d16_57) rfl k) ?_
  show Gl p.tables e below PP (T3.setTop (mkF m 58 #[.val (.ref a1), .val (.int (1 : Int32))] [(.int (((y0 &&& (255 : Int32)) <<< ((0 : Int32) &&& 31)) ||| ((y1 &&& (255 : Int32)) <<< ((8 : Int32) &&& 31))))]))
  refine Gl.pre (fun _ k => XS.i2c X3.here hx rfl (hb hby d16_58) rfl k) ?_
  show Gl p.tables e below PP (T3.setTop (mkF m 59 #[.val (.ref a1), .val (.int (1 : Int32))] [(.int ((((y0 &&& (255 : Int32)) <<< ((0 : Int32) &&& 31)) ||| ((y1 &&& (255 : Int32)) <<< ((8 : Int32) &&& 31))).toUInt32.toUInt16.toUInt32.toInt32))]))
  rw [hPP]
  refine own_finN (Q := (Qgc1_0 Z a1 y0 y1 h0 n0)) X3 hx hlk Bd.returns (t := .char) (by simp) rfl (hb hby d16_59) ?_ (by decide) (by decide)
  show Qgc1_0 Z a1 y0 y1 h0 n0 _ T3.heap _
  rw [e3]
  exact ⟨rfl, N0, rfl⟩
theorem d11_0 : decode jdk_52_method_15_code 0 = .ok (.iload_n 1, 1) := by decide +kernel
theorem d11_1 : decode jdk_52_method_15_code 1 = .ok (.aload_n 0, 1) := by decide +kernel
theorem d11_2 : decode jdk_52_method_15_code 2 = .ok (.arraylength, 1) := by decide +kernel
theorem d11_3 : decode jdk_52_method_15_code 3 = .ok (.isub, 1) := by decide +kernel
theorem d11_4 : decode jdk_52_method_15_code 4 = .ok (.bipush 31, 2) := by decide +kernel
theorem d11_6 : decode jdk_52_method_15_code 6 = .ok (.iushr, 1) := by decide +kernel
theorem d11_7 : decode jdk_52_method_15_code 7 = .ok (.i2b, 1) := by decide +kernel
theorem d11_8 : decode jdk_52_method_15_code 8 = .ok (.ireturn, 1) := by decide +kernel
theorem pn_11 : plainName "java/lang/StringUTF16" = true := by first | (simp [plainName, overriddenIn]; done) | decide +kernel
theorem ef_cf1_1 (m : MethodId) (a1 : Addr) (ys : List Int32) : entryFrame m #[(.ref a1), (.int (1 : Int32))] 2 = mkF m 0 #[.val (.ref a1), .val (.int (1 : Int32))] [] := by first | (simp [entryFrame, mkF, argsToLocals, Value.category]; done) | rfl
def Qcf1_1 (Z : State) (a1 : Addr) (ys : List Int32) (h0 : Heap) (n0 : Nat) (v : Option Value) (h : Heap) (L : List Loc) : Prop := v = some (.int (0 : Int32)) ∧ Fr n0 L ∧ h = h0
set_option maxRecDepth 65536 in
set_option maxHeartbeats 40000000 in
theorem rmcf1_1 (l : Launch) (Z : State) (a0 : Array Value) (hw : ∀ d ∈ tables_1, d.before a0 Z = true) (ws : List Jvm.Cond) (a1 : Addr) (ys : List Int32) (h0 : Heap) (n0 : Nat) (Z0 : n0 ≤ h0.size) (V_a1 : Bal Z h0 a1 .byte ys) (hlen : ys.length = 1) :
    MetFree l (⟨"java/lang/StringUTF16", "coderFromArrayLen", "([BI)B"⟩ : MethodName) (head1 (Jvm.Cond.code (⟨"java/lang/StringUTF16", "coderFromArrayLen", "([BI)B"⟩ : MethodName) jdk_52_method_15_code 2 (some .byte) :: ws) ({ frames := 0, cells := 0, slots := 0, locals := 0 } : Room)) (fun a U => a = #[(.ref a1), (.int (1 : Int32))] ∧ Z.Warmed39 U.vm ∧ U.heap = h0) (fun _ _ _ _ _ => True) (fun _ U o U' => ∃ v L, o = .returned v ∧ Qcf1_1 Z a1 ys h0 n0 v U'.heap L ∧ FrameEnd U o U' L ({ frames := 0, cells := 0, slots := 0, locals := 0 } : Room).cells ({ frames := 0, cells := 0, slots := 0, locals := 0 } : Room).slots) := by
  refine MetFree.of_bodySF (plainFor_of_name pn_11) hisR ?_
  intro p e s m args below meth c s₁ Bd hml0 hP hK
  obtain ⟨rfl, hZ, hh⟩ := hP
  have hx := Bd.exec
  have hby := Bd.bytes
  have hlk : meth.locks = false := BodyLoose.notSynchronized Bd
  have hml : c.maxLocals = 2 := hml0
  have hown : s.vm.findClass "java/lang/StringUTF16" = some m.cls := findClass_of_methodNamed Bd.named
  have hnm := (name_of_methodNamed Bd.named Bd.method).1
  have X0 : Stand p l e ({ frames := 0, cells := 0, slots := 0, locals := 0 } : Room) s m #[(.ref a1), (.int (1 : Int32))] below meth c s₁ [] 0 0 := Stand.of_body Bd
  have e0 : s₁.heap = h0 := by rw [← hh, Bd.state]; rfl
  have N0 := Fr.nil n0
  show Gl p.tables e below (fun (o : Outcome) (U' : State) => ∃ v L, o = .returned v ∧ Qcf1_1 Z a1 ys h0 n0 v U'.heap L ∧ FrameEnd s o U' L ({ frames := 0, cells := 0, slots := 0, locals := 0 } : Room).cells ({ frames := 0, cells := 0, slots := 0, locals := 0 } : Room).slots) _
  refine Gl.pre (fun t k => castTop (ef_cf1_1 m a1 ys) k) ?_
  obtain ⟨PP, hPP⟩ : ∃ P : Outcome → State → Prop, P = (fun (o : Outcome) (U' : State) => ∃ v L, o = .returned v ∧ Qcf1_1 Z a1 ys h0 n0 v U'.heap L ∧ FrameEnd s o U' L ({ frames := 0, cells := 0, slots := 0, locals := 0 } : Room).cells ({ frames := 0, cells := 0, slots := 0, locals := 0 } : Room).slots) := ⟨_, rfl⟩
  rw [← hPP]
  show Gl p.tables e below PP (s₁.setTop (mkF m 0 #[.val (.ref a1), .val (.int (1 : Int32))] []))
  refine Gl.pre (fun _ k => XS.iloadN X0.here hx rfl (hb hby d11_0) rfl k) ?_
  show Gl p.tables e below PP (s₁.setTop (mkF m 1 #[.val (.ref a1), .val (.int (1 : Int32))] [(.int (1 : Int32))]))
  refine Gl.pre (fun _ k => XS.aloadN X0.here hx rfl (hb hby d11_1) rfl rfl k) ?_
  show Gl p.tables e below PP (s₁.setTop (mkF m 2 #[.val (.ref a1), .val (.int (1 : Int32))] [(.ref a1), (.int (1 : Int32))]))
  refine Gl.pre (fun _ k => own_len X0 hx hZ e0 V_a1 (v := (1 : Int32)) (by rw [hlen]; rfl) (g := (mkF m 2 #[.val (.ref a1), .val (.int (1 : Int32))] [(.ref a1), (.int (1 : Int32))])) rfl rfl (hb hby d11_2) _ k) ?_
  show Gl p.tables e below PP (s₁.setTop (mkF m 3 #[.val (.ref a1), .val (.int (1 : Int32))] [(.int (1 : Int32)), (.int (1 : Int32))]))
  refine Gl.pre (fun _ k => XS.isub X0.here hx rfl (hb hby d11_3) rfl k) ?_
  show Gl p.tables e below PP (s₁.setTop (mkF m 4 #[.val (.ref a1), .val (.int (1 : Int32))] [(.int ((1 : Int32) - (1 : Int32)))]))
  rw [show ((1 : Int32) - (1 : Int32)) = (0 : Int32) by decide]
  show Gl p.tables e below PP (s₁.setTop (mkF m 4 #[.val (.ref a1), .val (.int (1 : Int32))] [(.int (0 : Int32))]))
  refine Gl.pre (fun _ k => XS.bipush X0.here hx rfl (hb hby d11_4) k) ?_
  show Gl p.tables e below PP (s₁.setTop (mkF m 6 #[.val (.ref a1), .val (.int (1 : Int32))] [(.int (31 : Int32)), (.int (0 : Int32))]))
  refine Gl.pre (fun _ k => XS.iushr X0.here hx rfl (hb hby d11_6) rfl k) ?_
  show Gl p.tables e below PP (s₁.setTop (mkF m 7 #[.val (.ref a1), .val (.int (1 : Int32))] [(.int (own_ushr (0 : Int32) (31 : Int32)))]))
  rw [show (own_ushr (0 : Int32) (31 : Int32)) = (0 : Int32) by decide]
  show Gl p.tables e below PP (s₁.setTop (mkF m 7 #[.val (.ref a1), .val (.int (1 : Int32))] [(.int (0 : Int32))]))
  refine Gl.pre (fun _ k => XS.i2b X0.here hx rfl (hb hby d11_7) rfl k) ?_
  show Gl p.tables e below PP (s₁.setTop (mkF m 8 #[.val (.ref a1), .val (.int (1 : Int32))] [(.int ((0 : Int32).toInt8.toInt32))]))
  rw [show ((0 : Int32).toInt8.toInt32) = (0 : Int32) by decide]
  show Gl p.tables e below PP (s₁.setTop (mkF m 8 #[.val (.ref a1), .val (.int (1 : Int32))] [(.int (0 : Int32))]))
  rw [hPP]
  refine own_finN (Q := (Qcf1_1 Z a1 ys h0 n0)) X0 hx hlk Bd.returns (t := .byte) (z' := (0 : Int32)) (by simp) (by decide) (hb hby d11_8) ?_ (by decide) (by decide)
  show Qcf1_1 Z a1 ys h0 n0 _ s₁.heap _
  rw [e0]
  exact ⟨rfl, N0, rfl⟩
theorem ef_cf1_2 (m : MethodId) (a1 : Addr) (ys : List Int32) : entryFrame m #[(.ref a1), (.int (1 : Int32))] 2 = mkF m 0 #[.val (.ref a1), .val (.int (1 : Int32))] [] := by first | (simp [entryFrame, mkF, argsToLocals, Value.category]; done) | rfl
def Qcf1_2 (Z : State) (a1 : Addr) (ys : List Int32) (h0 : Heap) (n0 : Nat) (v : Option Value) (h : Heap) (L : List Loc) : Prop := v = some (.int (1 : Int32)) ∧ Fr n0 L ∧ h = h0
set_option maxRecDepth 65536 in
set_option maxHeartbeats 40000000 in
theorem rmcf1_2 (l : Launch) (Z : State) (a0 : Array Value) (hw : ∀ d ∈ tables_1, d.before a0 Z = true) (ws : List Jvm.Cond) (a1 : Addr) (ys : List Int32) (h0 : Heap) (n0 : Nat) (Z0 : n0 ≤ h0.size) (V_a1 : Bal Z h0 a1 .byte ys) (hlen : ys.length = 2) :
    MetFree l (⟨"java/lang/StringUTF16", "coderFromArrayLen", "([BI)B"⟩ : MethodName) (head1 (Jvm.Cond.code (⟨"java/lang/StringUTF16", "coderFromArrayLen", "([BI)B"⟩ : MethodName) jdk_52_method_15_code 2 (some .byte) :: ws) ({ frames := 0, cells := 0, slots := 0, locals := 0 } : Room)) (fun a U => a = #[(.ref a1), (.int (1 : Int32))] ∧ Z.Warmed39 U.vm ∧ U.heap = h0) (fun _ _ _ _ _ => True) (fun _ U o U' => ∃ v L, o = .returned v ∧ Qcf1_2 Z a1 ys h0 n0 v U'.heap L ∧ FrameEnd U o U' L ({ frames := 0, cells := 0, slots := 0, locals := 0 } : Room).cells ({ frames := 0, cells := 0, slots := 0, locals := 0 } : Room).slots) := by
  refine MetFree.of_bodySF (plainFor_of_name pn_11) hisR ?_
  intro p e s m args below meth c s₁ Bd hml0 hP hK
  obtain ⟨rfl, hZ, hh⟩ := hP
  have hx := Bd.exec
  have hby := Bd.bytes
  have hlk : meth.locks = false := BodyLoose.notSynchronized Bd
  have hml : c.maxLocals = 2 := hml0
  have hown : s.vm.findClass "java/lang/StringUTF16" = some m.cls := findClass_of_methodNamed Bd.named
  have hnm := (name_of_methodNamed Bd.named Bd.method).1
  have X0 : Stand p l e ({ frames := 0, cells := 0, slots := 0, locals := 0 } : Room) s m #[(.ref a1), (.int (1 : Int32))] below meth c s₁ [] 0 0 := Stand.of_body Bd
  have e0 : s₁.heap = h0 := by rw [← hh, Bd.state]; rfl
  have N0 := Fr.nil n0
  show Gl p.tables e below (fun (o : Outcome) (U' : State) => ∃ v L, o = .returned v ∧ Qcf1_2 Z a1 ys h0 n0 v U'.heap L ∧ FrameEnd s o U' L ({ frames := 0, cells := 0, slots := 0, locals := 0 } : Room).cells ({ frames := 0, cells := 0, slots := 0, locals := 0 } : Room).slots) _
  refine Gl.pre (fun t k => castTop (ef_cf1_2 m a1 ys) k) ?_
  obtain ⟨PP, hPP⟩ : ∃ P : Outcome → State → Prop, P = (fun (o : Outcome) (U' : State) => ∃ v L, o = .returned v ∧ Qcf1_2 Z a1 ys h0 n0 v U'.heap L ∧ FrameEnd s o U' L ({ frames := 0, cells := 0, slots := 0, locals := 0 } : Room).cells ({ frames := 0, cells := 0, slots := 0, locals := 0 } : Room).slots) := ⟨_, rfl⟩
  rw [← hPP]
  show Gl p.tables e below PP (s₁.setTop (mkF m 0 #[.val (.ref a1), .val (.int (1 : Int32))] []))
  refine Gl.pre (fun _ k => XS.iloadN X0.here hx rfl (hb hby d11_0) rfl k) ?_
  show Gl p.tables e below PP (s₁.setTop (mkF m 1 #[.val (.ref a1), .val (.int (1 : Int32))] [(.int (1 : Int32))]))
  refine Gl.pre (fun _ k => XS.aloadN X0.here hx rfl (hb hby d11_1) rfl rfl k) ?_
  show Gl p.tables e below PP (s₁.setTop (mkF m 2 #[.val (.ref a1), .val (.int (1 : Int32))] [(.ref a1), (.int (1 : Int32))]))
  refine Gl.pre (fun _ k => own_len X0 hx hZ e0 V_a1 (v := (2 : Int32)) (by rw [hlen]; rfl) (g := (mkF m 2 #[.val (.ref a1), .val (.int (1 : Int32))] [(.ref a1), (.int (1 : Int32))])) rfl rfl (hb hby d11_2) _ k) ?_
  show Gl p.tables e below PP (s₁.setTop (mkF m 3 #[.val (.ref a1), .val (.int (1 : Int32))] [(.int (2 : Int32)), (.int (1 : Int32))]))
  refine Gl.pre (fun _ k => XS.isub X0.here hx rfl (hb hby d11_3) rfl k) ?_
  show Gl p.tables e below PP (s₁.setTop (mkF m 4 #[.val (.ref a1), .val (.int (1 : Int32))] [(.int ((1 : Int32) - (2 : Int32)))]))
  rw [show ((1 : Int32) - (2 : Int32)) = (-1 : Int32) by decide]
  show Gl p.tables e below PP (s₁.setTop (mkF m 4 #[.val (.ref a1), .val (.int (1 : Int32))] [(.int (-1 : Int32))]))
  refine Gl.pre (fun _ k => XS.bipush X0.here hx rfl (hb hby d11_4) k) ?_
  show Gl p.tables e below PP (s₁.setTop (mkF m 6 #[.val (.ref a1), .val (.int (1 : Int32))] [(.int (31 : Int32)), (.int (-1 : Int32))]))
  refine Gl.pre (fun _ k => XS.iushr X0.here hx rfl (hb hby d11_6) rfl k) ?_
  show Gl p.tables e below PP (s₁.setTop (mkF m 7 #[.val (.ref a1), .val (.int (1 : Int32))] [(.int (own_ushr (-1 : Int32) (31 : Int32)))]))
  rw [show (own_ushr (-1 : Int32) (31 : Int32)) = (1 : Int32) by decide]
  show Gl p.tables e below PP (s₁.setTop (mkF m 7 #[.val (.ref a1), .val (.int (1 : Int32))] [(.int (1 : Int32))]))
  refine Gl.pre (fun _ k => XS.i2b X0.here hx rfl (hb hby d11_7) rfl k) ?_
  show Gl p.tables e below PP (s₁.setTop (mkF m 8 #[.val (.ref a1), .val (.int (1 : Int32))] [(.int ((1 : Int32).toInt8.toInt32))]))
  rw [show ((1 : Int32).toInt8.toInt32) = (1 : Int32) by decide]
  show Gl p.tables e below PP (s₁.setTop (mkF m 8 #[.val (.ref a1), .val (.int (1 : Int32))] [(.int (1 : Int32))]))
  rw [hPP]
  refine own_finN (Q := (Qcf1_2 Z a1 ys h0 n0)) X0 hx hlk Bd.returns (t := .byte) (z' := (1 : Int32)) (by simp) (by decide) (hb hby d11_8) ?_ (by decide) (by decide)
  show Qcf1_2 Z a1 ys h0 n0 _ s₁.heap _
  rw [e0]
  exact ⟨rfl, N0, rfl⟩
theorem d9_0 : decode jdk_52_method_16_code 0 = .ok (.iload_n 2, 1) := by decide +kernel
theorem d9_1 : decode jdk_52_method_16_code 1 = .ok (.newarray .byte, 2) := by decide +kernel
theorem d9_3 : decode jdk_52_method_16_code 3 = .ok (.astore_n 3, 1) := by decide +kernel
theorem d9_4 : decode jdk_52_method_16_code 4 = .ok (.aload_n 0, 1) := by decide +kernel
theorem d9_5 : decode jdk_52_method_16_code 5 = .ok (.iload_n 1, 1) := by decide +kernel
theorem d9_6 : decode jdk_52_method_16_code 6 = .ok (.aload_n 3, 1) := by decide +kernel
theorem d9_7 : decode jdk_52_method_16_code 7 = .ok (.iconst 0, 1) := by decide +kernel
theorem d9_8 : decode jdk_52_method_16_code 8 = .ok (.iload_n 2, 1) := by decide +kernel
theorem d9_9 : decode jdk_52_method_16_code 9 = .ok (.invokestatic 115, 3) := by decide +kernel
theorem d9_12 : decode jdk_52_method_16_code 12 = .ok (.istore 4, 2) := by decide +kernel
theorem d9_14 : decode jdk_52_method_16_code 14 = .ok (.iload 4, 2) := by decide +kernel
theorem d9_16 : decode jdk_52_method_16_code 16 = .ok (.iload_n 2, 1) := by decide +kernel
theorem d9_17 : decode jdk_52_method_16_code 17 = .ok (.if_icmp .eq 40, 3) := by decide +kernel
theorem d9_20 : decode jdk_52_method_16_code 20 = .ok (.aload_n 0, 1) := by decide +kernel
theorem d9_21 : decode jdk_52_method_16_code 21 = .ok (.iload_n 1, 1) := by decide +kernel
theorem d9_22 : decode jdk_52_method_16_code 22 = .ok (.iload_n 2, 1) := by decide +kernel
theorem d9_23 : decode jdk_52_method_16_code 23 = .ok (.invokestatic 119, 3) := by decide +kernel
theorem d9_26 : decode jdk_52_method_16_code 26 = .ok (.astore 5, 2) := by decide +kernel
theorem d9_28 : decode jdk_52_method_16_code 28 = .ok (.aload 5, 2) := by decide +kernel
theorem d9_30 : decode jdk_52_method_16_code 30 = .ok (.iload 4, 2) := by decide +kernel
theorem d9_32 : decode jdk_52_method_16_code 32 = .ok (.invokestatic 71, 3) := by decide +kernel
theorem d9_35 : decode jdk_52_method_16_code 35 = .ok (.sipush 255, 3) := by decide +kernel
theorem d9_38 : decode jdk_52_method_16_code 38 = .ok (.if_icmp .gt 16, 3) := by decide +kernel
theorem d9_41 : decode jdk_52_method_16_code 41 = .ok (.aload 5, 2) := by decide +kernel
theorem d9_43 : decode jdk_52_method_16_code 43 = .ok (.iconst 0, 1) := by decide +kernel
theorem d9_44 : decode jdk_52_method_16_code 44 = .ok (.aload_n 3, 1) := by decide +kernel
theorem d9_45 : decode jdk_52_method_16_code 45 = .ok (.iconst 0, 1) := by decide +kernel
theorem d9_46 : decode jdk_52_method_16_code 46 = .ok (.iload_n 2, 1) := by decide +kernel
theorem d9_47 : decode jdk_52_method_16_code 47 = .ok (.invokestatic 123, 3) := by decide +kernel
theorem d9_50 : decode jdk_52_method_16_code 50 = .ok (.iload_n 2, 1) := by decide +kernel
theorem d9_51 : decode jdk_52_method_16_code 51 = .ok (.if_icmp .eq 6, 3) := by decide +kernel
theorem d9_54 : decode jdk_52_method_16_code 54 = .ok (.aload 5, 2) := by decide +kernel
theorem d9_56 : decode jdk_52_method_16_code 56 = .ok (.areturn, 1) := by decide +kernel
theorem d9_57 : decode jdk_52_method_16_code 57 = .ok (.aload_n 3, 1) := by decide +kernel
theorem d9_58 : decode jdk_52_method_16_code 58 = .ok (.areturn, 1) := by decide +kernel
theorem pn_9 : plainName "java/lang/StringUTF16" = true := by first | (simp [plainName, overriddenIn]; done) | decide +kernel
theorem ef_cm1 (m : MethodId) (a1 : Addr) (c0 : Int32) : entryFrame m #[(.ref a1), (.int (0 : Int32)), (.int (1 : Int32))] 6 = mkF m 0 #[.val (.ref a1), .val (.int (0 : Int32)), .val (.int (1 : Int32)), .unset, .unset, .unset] [] := by first | (simp [entryFrame, mkF, argsToLocals, Value.category]; done) | rfl
def Qcm1 (Z : State) (a1 : Addr) (c0 : Int32) (h0 : Heap) (n0 : Nat) (v : Option Value) (h : Heap) (L : List Loc) : Prop := ∃ (b : Addr) (ys : List Int32), v = some (.ref b) ∧ Fr n0 L ∧ h0.size ≤ b ∧ Keep h0 h [] ∧ (ys.length = 1 ∨ ys.length = 2) ∧ Bal Z h b .byte ys
set_option maxRecDepth 65536 in
set_option maxHeartbeats 40000000 in
theorem rmcm1 (l : Launch) (Z : State) (a0 : Array Value) (hw : ∀ d ∈ tables_1, d.before a0 Z = true) (ws : List Jvm.Cond) (a1 : Addr) (c0 : Int32) (h0 : Heap) (n0 : Nat) (Z0 : n0 ≤ h0.size) (V_a1 : Bal Z h0 a1 .char [c0]) (hr0 : 0 ≤ c0.toInt ∧ c0.toInt < 65536) (SAD : Sta Z Z.heap "java/lang/StringUTF16" "$assertionsDisabled" "Z" (.int (1 : Int32))) (SHI : Sta Z Z.heap "java/lang/StringUTF16" "HI_BYTE_SHIFT" "I" (.int (0 : Int32))) (SLO : Sta Z Z.heap "java/lang/StringUTF16" "LO_BYTE_SHIFT" "I" (.int (8 : Int32))) (O_ : Old Z n0 h0) :
    MetFree l (⟨"java/lang/StringUTF16", "compress", "([CII)[B"⟩ : MethodName) (head1 (Jvm.Cond.code (⟨"java/lang/StringUTF16", "compress", "([CII)[B"⟩ : MethodName) jdk_52_method_16_code 6 (some (.array .byte)) :: ws) ({ frames := 3, cells := 2, slots := 3, locals := 40 } : Room)) (fun a U => a = #[(.ref a1), (.int (0 : Int32)), (.int (1 : Int32))] ∧ Z.Warmed39 U.vm ∧ U.heap = h0) (fun _ _ _ _ _ => True) (fun _ U o U' => ∃ v L, o = .returned v ∧ Qcm1 Z a1 c0 h0 n0 v U'.heap L ∧ FrameEnd U o U' L ({ frames := 3, cells := 2, slots := 3, locals := 40 } : Room).cells ({ frames := 3, cells := 2, slots := 3, locals := 40 } : Room).slots) := by
  refine MetFree.of_bodySF (plainFor_of_name pn_9) hisR ?_
  intro p e s m args below meth c s₁ Bd hml0 hP hK
  obtain ⟨rfl, hZ, hh⟩ := hP
  have hx := Bd.exec
  have hby := Bd.bytes
  have hlk : meth.locks = false := BodyLoose.notSynchronized Bd
  have hml : c.maxLocals = 6 := hml0
  have hown : s.vm.findClass "java/lang/StringUTF16" = some m.cls := findClass_of_methodNamed Bd.named
  have hnm := (name_of_methodNamed Bd.named Bd.method).1
  have X0 : Stand p l e ({ frames := 3, cells := 2, slots := 3, locals := 40 } : Room) s m #[(.ref a1), (.int (0 : Int32)), (.int (1 : Int32))] below meth c s₁ [] 0 0 := Stand.of_body Bd
  have e0 : s₁.heap = h0 := by rw [← hh, Bd.state]; rfl
  have N0 := Fr.nil n0
  show Gl p.tables e below (fun (o : Outcome) (U' : State) => ∃ v L, o = .returned v ∧ Qcm1 Z a1 c0 h0 n0 v U'.heap L ∧ FrameEnd s o U' L ({ frames := 3, cells := 2, slots := 3, locals := 40 } : Room).cells ({ frames := 3, cells := 2, slots := 3, locals := 40 } : Room).slots) _
  refine Gl.pre (fun t k => castTop (ef_cm1 m a1 c0) k) ?_
  obtain ⟨PP, hPP⟩ : ∃ P : Outcome → State → Prop, P = (fun (o : Outcome) (U' : State) => ∃ v L, o = .returned v ∧ Qcm1 Z a1 c0 h0 n0 v U'.heap L ∧ FrameEnd s o U' L ({ frames := 3, cells := 2, slots := 3, locals := 40 } : Room).cells ({ frames := 3, cells := 2, slots := 3, locals := 40 } : Room).slots) := ⟨_, rfl⟩
  rw [← hPP]
  have K0 : Keep h0 h0 [] := Keep.refl h0 _
  show Gl p.tables e below PP (s₁.setTop (mkF m 0 #[.val (.ref a1), .val (.int (0 : Int32)), .val (.int (1 : Int32)), .unset, .unset, .unset] []))
  refine Gl.pre (fun _ k => XS.iloadN X0.here hx rfl (hb hby d9_0) rfl k) ?_
  show Gl p.tables e below PP (s₁.setTop (mkF m 1 #[.val (.ref a1), .val (.int (0 : Int32)), .val (.int (1 : Int32)), .unset, .unset, .unset] [(.int (1 : Int32))]))
  obtain ⟨T1, h1, k1, X1, e1, E1, A1, st1⟩ := newP X0 hx hZ (hw _ (List.mem_of_getElem? (i := 19) rfl)) e0 (g := (mkF m 1 #[.val (.ref a1), .val (.int (0 : Int32)), .val (.int (1 : Int32)), .unset, .unset, .unset] [(.int (1 : Int32))])) rfl (hb hby d9_1) rfl (by decide) (cap := 1) (by decide) (by decide) (by decide) (by decide)
  obtain ⟨b1, g1⟩ : ∃ z, z = h0.size := ⟨_, rfl⟩
  rw [← g1] at A1 st1
  refine Gl.pre (fun _ k => st1 _ k) ?_
  have own_ne_a1_b1 : a1 ≠ b1 := by have q := V_a1.lt; rw [g1]; exact Nat.ne_of_lt q
  have own_ne_b1_a1 : b1 ≠ a1 := own_ne_a1_b1.symm
  have g_b1 : n0 ≤ b1 := Nat.le_trans Z0 (Nat.le_of_eq g1.symm)
  have sz_b1 : h0.size ≤ b1 := Nat.le_trans K0.1 (Nat.le_of_eq g1.symm)
  have V_a1 := V_a1.ext E1
  have O_ := O_.ext E1
  have Z1 : n0 ≤ h1.size := Nat.le_trans Z0 E1.1
  have K1 := K0.ext E1
  have V_b1 : Bal Z h1 b1 .byte [(0 : Int32)] := Bal.new (ty := .byte) A1 (n := 1) (by decide) rfl
  show Gl p.tables e below PP (T1.setTop (mkF m 3 #[.val (.ref a1), .val (.int (0 : Int32)), .val (.int (1 : Int32)), .unset, .unset, .unset] [(.ref b1)]))
  refine Gl.pre (fun _ k => XS.astoreN X1.here hx rfl (hb hby d9_3) rfl rfl (l' := #[.val (.ref a1), .val (.int (0 : Int32)), .val (.int (1 : Int32)), .val (.ref b1), .unset, .unset]) rfl k) ?_
  show Gl p.tables e below PP (T1.setTop (mkF m 4 #[.val (.ref a1), .val (.int (0 : Int32)), .val (.int (1 : Int32)), .val (.ref b1), .unset, .unset] []))
  refine Gl.pre (fun _ k => XS.aloadN X1.here hx rfl (hb hby d9_4) rfl rfl k) ?_
  show Gl p.tables e below PP (T1.setTop (mkF m 5 #[.val (.ref a1), .val (.int (0 : Int32)), .val (.int (1 : Int32)), .val (.ref b1), .unset, .unset] [(.ref a1)]))
  refine Gl.pre (fun _ k => XS.iloadN X1.here hx rfl (hb hby d9_5) rfl k) ?_
  show Gl p.tables e below PP (T1.setTop (mkF m 6 #[.val (.ref a1), .val (.int (0 : Int32)), .val (.int (1 : Int32)), .val (.ref b1), .unset, .unset] [(.int (0 : Int32)), (.ref a1)]))
  refine Gl.pre (fun _ k => XS.aloadN X1.here hx rfl (hb hby d9_6) rfl rfl k) ?_
  show Gl p.tables e below PP (T1.setTop (mkF m 7 #[.val (.ref a1), .val (.int (0 : Int32)), .val (.int (1 : Int32)), .val (.ref b1), .unset, .unset] [(.ref b1), (.int (0 : Int32)), (.ref a1)]))
  refine Gl.pre (fun _ k => XS.iconst X1.here hx rfl (hb hby d9_7) k) ?_
  show Gl p.tables e below PP (T1.setTop (mkF m 8 #[.val (.ref a1), .val (.int (0 : Int32)), .val (.int (1 : Int32)), .val (.ref b1), .unset, .unset] [(.int (0 : Int32)), (.ref b1), (.int (0 : Int32)), (.ref a1)]))
  refine Gl.pre (fun _ k => XS.iloadN X1.here hx rfl (hb hby d9_8) rfl k) ?_
  show Gl p.tables e below PP (T1.setTop (mkF m 9 #[.val (.ref a1), .val (.int (0 : Int32)), .val (.int (1 : Int32)), .val (.ref b1), .unset, .unset] [(.int (1 : Int32)), (.int (0 : Int32)), (.ref b1), (.int (0 : Int32)), (.ref a1)]))
  by_cases hc0 : (255 : Int32) < c0
  · show Gl p.tables e below PP (T1.setTop (mkF m 9 #[.val (.ref a1), .val (.int (0 : Int32)), .val (.int (1 : Int32)), .val (.ref b1), .unset, .unset] [(.int (1 : Int32)), (.int (0 : Int32)), (.ref b1), (.int (0 : Int32)), (.ref a1)]))
    obtain ⟨_, _, ⟨T2, L2, k2, n2⟩, -, X2, ⟨Lc2, hQ2, l2, y2, z2⟩, st2⟩ := Jvm.LawKit.callS X1 hx (y := (⟨"java/lang/StringUTF16", "compress", "([CI[BII)I"⟩ : MethodName)) hown (mvT hZ (hw _ (List.mem_of_getElem? (i := 59) rfl))) (mvT hZ (hw _ (List.mem_of_getElem? (i := 60) rfl))) (mvT hZ (hw _ (List.mem_of_getElem? (i := 57) rfl))) (mvT hZ (hw _ (List.mem_of_getElem? (i := 61) rfl))) (by decide) (backOf (W := 0) (rmcz1_0 l Z a0 hw [] a1 b1 c0 h1 n0 Z1 V_a1 V_b1 g_b1 own_ne_a1_b1 own_ne_b1_a1 hc0) hZ (hw _ (List.mem_of_getElem? (i := 61) rfl)) (hw _ (List.mem_of_getElem? (i := 57) rfl)) (by decide) (by decide)) (g := (mkF m 9 #[.val (.ref a1), .val (.int (0 : Int32)), .val (.int (1 : Int32)), .val (.ref b1), .unset, .unset] [(.int (1 : Int32)), (.int (0 : Int32)), (.ref b1), (.int (0 : Int32)), (.ref a1)])) rfl (by rw [hml]; rfl) (argsL := [(.ref a1), (.int (0 : Int32)), (.ref b1), (.int (0 : Int32)), (.int (1 : Int32))]) (rest := []) (lenOf pd_3 rfl) rfl (by show 2 * 0 + _ ≤ _; exact Nat.le_of_eq rfl) (hb hby d9_9) (fun _ _ => ⟨rfl, e1, (by decide : 1 + 0 ≤ _), (by decide : 1 + 0 ≤ _)⟩)
    dsimp only [Pt.U, Pt.locs, Pt.cells, Pt.slots] at X2 l2 y2 z2 st2 hQ2
    subst l2 y2 z2
    obtain ⟨rfl, N2q, K2, ys2, hys2, V2q⟩ := hQ2
    have N2 := Fr.app N0 N2q
    refine Gl.pre (fun _ k => st2 _ k) ?_
    have V_a1 := V_a1.keep K2 (ninS (own_ne_a1_b1) nin0)
    have O_ := O_.keep K2 (allS g_b1 all0)
    have Z2 : n0 ≤ T2.heap.size := Nat.le_trans Z1 K2.1
    have K2k := K1.trans K2 (allS (Or.inr sz_b1) all0)
    have V_b1 := V2q
    show Gl p.tables e below PP (T2.setTop (mkF m 12 #[.val (.ref a1), .val (.int (0 : Int32)), .val (.int (1 : Int32)), .val (.ref b1), .unset, .unset] [(.int (0 : Int32))]))
    refine Gl.pre (fun _ k => XS.istore X2.here hx rfl (hb hby d9_12) rfl (l' := #[.val (.ref a1), .val (.int (0 : Int32)), .val (.int (1 : Int32)), .val (.ref b1), .val (.int (0 : Int32)), .unset]) rfl k) ?_
    show Gl p.tables e below PP (T2.setTop (mkF m 14 #[.val (.ref a1), .val (.int (0 : Int32)), .val (.int (1 : Int32)), .val (.ref b1), .val (.int (0 : Int32)), .unset] []))
    refine Gl.pre (fun _ k => XS.iload X2.here hx rfl (hb hby d9_14) rfl k) ?_
    show Gl p.tables e below PP (T2.setTop (mkF m 16 #[.val (.ref a1), .val (.int (0 : Int32)), .val (.int (1 : Int32)), .val (.ref b1), .val (.int (0 : Int32)), .unset] [(.int (0 : Int32))]))
    refine Gl.pre (fun _ k => XS.iloadN X2.here hx rfl (hb hby d9_16) rfl k) ?_
    show Gl p.tables e below PP (T2.setTop (mkF m 17 #[.val (.ref a1), .val (.int (0 : Int32)), .val (.int (1 : Int32)), .val (.ref b1), .val (.int (0 : Int32)), .unset] [(.int (1 : Int32)), (.int (0 : Int32))]))
    refine Gl.pre (fun _ k => XS.icmpNo X2.here hx rfl (hb hby d9_17) rfl (feq (show ¬ ((0 : Int32) = (1 : Int32)) from (by decide))).1 k) ?_
    show Gl p.tables e below PP (T2.setTop (mkF m 20 #[.val (.ref a1), .val (.int (0 : Int32)), .val (.int (1 : Int32)), .val (.ref b1), .val (.int (0 : Int32)), .unset] []))
    refine Gl.pre (fun _ k => XS.aloadN X2.here hx rfl (hb hby d9_20) rfl rfl k) ?_
    show Gl p.tables e below PP (T2.setTop (mkF m 21 #[.val (.ref a1), .val (.int (0 : Int32)), .val (.int (1 : Int32)), .val (.ref b1), .val (.int (0 : Int32)), .unset] [(.ref a1)]))
    refine Gl.pre (fun _ k => XS.iloadN X2.here hx rfl (hb hby d9_21) rfl k) ?_
    show Gl p.tables e below PP (T2.setTop (mkF m 22 #[.val (.ref a1), .val (.int (0 : Int32)), .val (.int (1 : Int32)), .val (.ref b1), .val (.int (0 : Int32)), .unset] [(.int (0 : Int32)), (.ref a1)]))
    refine Gl.pre (fun _ k => XS.iloadN X2.here hx rfl (hb hby d9_22) rfl k) ?_
    show Gl p.tables e below PP (T2.setTop (mkF m 23 #[.val (.ref a1), .val (.int (0 : Int32)), .val (.int (1 : Int32)), .val (.ref b1), .val (.int (0 : Int32)), .unset] [(.int (1 : Int32)), (.int (0 : Int32)), (.ref a1)]))
    obtain ⟨_, _, ⟨T3, L3, k3, n3⟩, -, X3, ⟨Lc3, hQ3, l3, y3, z3⟩, st3⟩ := Jvm.LawKit.callS X2 hx (y := (⟨"java/lang/StringUTF16", "toBytes", "([CII)[B"⟩ : MethodName)) hown (mvT hZ (hw _ (List.mem_of_getElem? (i := 65) rfl))) (mvT hZ (hw _ (List.mem_of_getElem? (i := 66) rfl))) (mvT hZ (hw _ (List.mem_of_getElem? (i := 57) rfl))) (mvT hZ (hw _ (List.mem_of_getElem? (i := 67) rfl))) (by decide) (backOf (W := 0) (rmtb1 l Z a0 hw [] a1 c0 T2.heap n0 Z2 V_a1 SAD SHI SLO O_) hZ (hw _ (List.mem_of_getElem? (i := 67) rfl)) (hw _ (List.mem_of_getElem? (i := 57) rfl)) (by decide) (by decide)) (g := (mkF m 23 #[.val (.ref a1), .val (.int (0 : Int32)), .val (.int (1 : Int32)), .val (.ref b1), .val (.int (0 : Int32)), .unset] [(.int (1 : Int32)), (.int (0 : Int32)), (.ref a1)])) rfl (by rw [hml]; rfl) (argsL := [(.ref a1), (.int (0 : Int32)), (.int (1 : Int32))]) (rest := []) (lenOf pd_4 rfl) rfl (by show 2 * 0 + _ ≤ _; exact Nat.le_of_eq rfl) (hb hby d9_23) (fun _ _ => ⟨rfl, rfl, (by decide : 1 + 1 ≤ _), (by decide : 1 + 2 ≤ _)⟩)
    dsimp only [Pt.U, Pt.locs, Pt.cells, Pt.slots] at X3 l3 y3 z3 st3 hQ3
    subst l3 y3 z3
    obtain ⟨bt3, rfl, N3q, hz3, K3, V3q⟩ := hQ3
    have N3 := Fr.app N2 N3q
    refine Gl.pre (fun _ k => st3 _ k) ?_
    have own_ne_a1_bt3 : a1 ≠ bt3 := Nat.ne_of_lt (Nat.lt_of_lt_of_le V_a1.lt hz3)
    have own_ne_bt3_a1 := own_ne_a1_bt3.symm
    have own_ne_b1_bt3 : b1 ≠ bt3 := Nat.ne_of_lt (Nat.lt_of_lt_of_le V_b1.lt hz3)
    have own_ne_bt3_b1 := own_ne_b1_bt3.symm
    have g_bt3 : n0 ≤ bt3 := Nat.le_trans Z2 hz3
    have sz_bt3 : h0.size ≤ bt3 := Nat.le_trans K2k.1 hz3
    have V_a1 := V_a1.keep K3 nin0
    have O_ := O_.keep K3 all0
    have V_b1 := V_b1.keep K3 nin0
    have Z3 : n0 ≤ T3.heap.size := Nat.le_trans Z2 K3.1
    have K3k := K2k.trans K3 all0
    have V_bt3 := V3q
    show Gl p.tables e below PP (T3.setTop (mkF m 26 #[.val (.ref a1), .val (.int (0 : Int32)), .val (.int (1 : Int32)), .val (.ref b1), .val (.int (0 : Int32)), .unset] [(.ref bt3)]))
    refine Gl.pre (fun _ k => XS.astore X3.here hx rfl (hb hby d9_26) rfl rfl (l' := #[.val (.ref a1), .val (.int (0 : Int32)), .val (.int (1 : Int32)), .val (.ref b1), .val (.int (0 : Int32)), .val (.ref bt3)]) rfl k) ?_
    show Gl p.tables e below PP (T3.setTop (mkF m 28 #[.val (.ref a1), .val (.int (0 : Int32)), .val (.int (1 : Int32)), .val (.ref b1), .val (.int (0 : Int32)), .val (.ref bt3)] []))
    refine Gl.pre (fun _ k => XS.aload X3.here hx rfl (hb hby d9_28) rfl rfl k) ?_
    show Gl p.tables e below PP (T3.setTop (mkF m 30 #[.val (.ref a1), .val (.int (0 : Int32)), .val (.int (1 : Int32)), .val (.ref b1), .val (.int (0 : Int32)), .val (.ref bt3)] [(.ref bt3)]))
    refine Gl.pre (fun _ k => XS.iload X3.here hx rfl (hb hby d9_30) rfl k) ?_
    show Gl p.tables e below PP (T3.setTop (mkF m 32 #[.val (.ref a1), .val (.int (0 : Int32)), .val (.int (1 : Int32)), .val (.ref b1), .val (.int (0 : Int32)), .val (.ref bt3)] [(.int (0 : Int32)), (.ref bt3)]))
    obtain ⟨_, _, ⟨T4, L4, k4, n4⟩, -, X4, ⟨Lc4, hQ4, l4, y4, z4⟩, st4⟩ := Jvm.LawKit.callS X3 hx (y := (⟨"java/lang/StringUTF16", "getChar", "([BI)C"⟩ : MethodName)) hown (mvT hZ (hw _ (List.mem_of_getElem? (i := 81) rfl))) (mvT hZ (hw _ (List.mem_of_getElem? (i := 82) rfl))) (mvT hZ (hw _ (List.mem_of_getElem? (i := 57) rfl))) (mvT hZ (hw _ (List.mem_of_getElem? (i := 83) rfl))) (by decide) (backOf (W := 0) (rmgc1_0 l Z a0 hw [] bt3 (nar .byte ((c0 >>> ((0 : Int32) &&& 31)).toInt8.toInt32)) (nar .byte ((c0 >>> ((8 : Int32) &&& 31)).toInt8.toInt32)) T3.heap n0 Z3 V_bt3 SAD SHI SLO O_) hZ (hw _ (List.mem_of_getElem? (i := 83) rfl)) (hw _ (List.mem_of_getElem? (i := 57) rfl)) (by decide) (by decide)) (g := (mkF m 32 #[.val (.ref a1), .val (.int (0 : Int32)), .val (.int (1 : Int32)), .val (.ref b1), .val (.int (0 : Int32)), .val (.ref bt3)] [(.int (0 : Int32)), (.ref bt3)])) rfl (by rw [hml]; rfl) (argsL := [(.ref bt3), (.int (0 : Int32))]) (rest := []) (lenOf pd_5 rfl) rfl (by show 2 * 0 + _ ≤ _; exact Nat.le_of_eq rfl) (hb hby d9_32) (fun _ _ => ⟨rfl, rfl, (by decide : 2 + 0 ≤ _), (by decide : 3 + 0 ≤ _)⟩)
    dsimp only [Pt.U, Pt.locs, Pt.cells, Pt.slots] at X4 l4 y4 z4 st4 hQ4
    subst l4 y4 z4
    obtain ⟨rfl, N4q, e4⟩ := hQ4
    have N4 := Fr.app N3 N4q
    refine Gl.pre (fun _ k => st4 _ k) ?_
    show Gl p.tables e below PP (T4.setTop (mkF m 35 #[.val (.ref a1), .val (.int (0 : Int32)), .val (.int (1 : Int32)), .val (.ref b1), .val (.int (0 : Int32)), .val (.ref bt3)] [(.int (nar .char (((((nar .byte ((c0 >>> ((0 : Int32) &&& 31)).toInt8.toInt32)) &&& (255 : Int32)) <<< ((0 : Int32) &&& 31)) ||| (((nar .byte ((c0 >>> ((8 : Int32) &&& 31)).toInt8.toInt32)) &&& (255 : Int32)) <<< ((8 : Int32) &&& 31))).toUInt32.toUInt16.toUInt32.toInt32)))]))
    refine Gl.pre (fun _ k => XS.sipush X4.here hx rfl (hb hby d9_35) k) ?_
    show Gl p.tables e below PP (T4.setTop (mkF m 38 #[.val (.ref a1), .val (.int (0 : Int32)), .val (.int (1 : Int32)), .val (.ref b1), .val (.int (0 : Int32)), .val (.ref bt3)] [(.int (255 : Int32)), (.int (nar .char (((((nar .byte ((c0 >>> ((0 : Int32) &&& 31)).toInt8.toInt32)) &&& (255 : Int32)) <<< ((0 : Int32) &&& 31)) ||| (((nar .byte ((c0 >>> ((8 : Int32) &&& 31)).toInt8.toInt32)) &&& (255 : Int32)) <<< ((8 : Int32) &&& 31))).toUInt32.toUInt16.toUInt32.toInt32)))]))
    refine Gl.pre (fun _ k => XS.icmpYes X4.here hx rfl (pc0 := 38) (pc' := 54) rfl (hb hby d9_38) rfl (tlt (show (255 : Int32) < (nar .char (((((nar .byte ((c0 >>> ((0 : Int32) &&& 31)).toInt8.toInt32)) &&& (255 : Int32)) <<< ((0 : Int32) &&& 31)) ||| (((nar .byte ((c0 >>> ((8 : Int32) &&& 31)).toInt8.toInt32)) &&& (255 : Int32)) <<< ((8 : Int32) &&& 31))).toUInt32.toUInt16.toUInt32.toInt32)) from (by rw [own_gc c0 hr0.1 hr0.2]; exact hc0))).2.2.1 (by decide) (by decide) k) ?_
    show Gl p.tables e below PP (T4.setTop (mkF m 54 #[.val (.ref a1), .val (.int (0 : Int32)), .val (.int (1 : Int32)), .val (.ref b1), .val (.int (0 : Int32)), .val (.ref bt3)] []))
    refine Gl.pre (fun _ k => XS.aload X4.here hx rfl (hb hby d9_54) rfl rfl k) ?_
    show Gl p.tables e below PP (T4.setTop (mkF m 56 #[.val (.ref a1), .val (.int (0 : Int32)), .val (.int (1 : Int32)), .val (.ref b1), .val (.int (0 : Int32)), .val (.ref bt3)] [(.ref bt3)]))
    rw [hPP]
    refine own_finA (Q := (Qcm1 Z a1 c0 h0 n0)) X4 hx hlk Bd.returns rfl rfl (hb hby d9_56) ?_ (by decide) (by decide)
    show Qcm1 Z a1 c0 h0 n0 _ T4.heap _
    rw [e4]
    exact ⟨bt3, [(nar .byte ((c0 >>> ((0 : Int32) &&& 31)).toInt8.toInt32)), (nar .byte ((c0 >>> ((8 : Int32) &&& 31)).toInt8.toInt32))], rfl, N4, sz_bt3, K3k, Or.inr rfl, V_bt3⟩
  · show Gl p.tables e below PP (T1.setTop (mkF m 9 #[.val (.ref a1), .val (.int (0 : Int32)), .val (.int (1 : Int32)), .val (.ref b1), .unset, .unset] [(.int (1 : Int32)), (.int (0 : Int32)), (.ref b1), (.int (0 : Int32)), (.ref a1)]))
    obtain ⟨_, _, ⟨T5, L5, k5, n5⟩, -, X5, ⟨Lc5, hQ5, l5, y5, z5⟩, st5⟩ := Jvm.LawKit.callS X1 hx (y := (⟨"java/lang/StringUTF16", "compress", "([CI[BII)I"⟩ : MethodName)) hown (mvT hZ (hw _ (List.mem_of_getElem? (i := 59) rfl))) (mvT hZ (hw _ (List.mem_of_getElem? (i := 60) rfl))) (mvT hZ (hw _ (List.mem_of_getElem? (i := 57) rfl))) (mvT hZ (hw _ (List.mem_of_getElem? (i := 61) rfl))) (by decide) (backOf (W := 0) (rmcz1_1 l Z a0 hw [] a1 b1 c0 h1 n0 Z1 V_a1 V_b1 g_b1 own_ne_a1_b1 own_ne_b1_a1 hc0) hZ (hw _ (List.mem_of_getElem? (i := 61) rfl)) (hw _ (List.mem_of_getElem? (i := 57) rfl)) (by decide) (by decide)) (g := (mkF m 9 #[.val (.ref a1), .val (.int (0 : Int32)), .val (.int (1 : Int32)), .val (.ref b1), .unset, .unset] [(.int (1 : Int32)), (.int (0 : Int32)), (.ref b1), (.int (0 : Int32)), (.ref a1)])) rfl (by rw [hml]; rfl) (argsL := [(.ref a1), (.int (0 : Int32)), (.ref b1), (.int (0 : Int32)), (.int (1 : Int32))]) (rest := []) (lenOf pd_3 rfl) rfl (by show 2 * 0 + _ ≤ _; exact Nat.le_of_eq rfl) (hb hby d9_9) (fun _ _ => ⟨rfl, e1, (by decide : 1 + 0 ≤ _), (by decide : 1 + 0 ≤ _)⟩)
    dsimp only [Pt.U, Pt.locs, Pt.cells, Pt.slots] at X5 l5 y5 z5 st5 hQ5
    subst l5 y5 z5
    obtain ⟨rfl, N5q, K5, ys5, hys5, V5q⟩ := hQ5
    have N5 := Fr.app N0 N5q
    refine Gl.pre (fun _ k => st5 _ k) ?_
    have V_a1 := V_a1.keep K5 (ninS (own_ne_a1_b1) nin0)
    have O_ := O_.keep K5 (allS g_b1 all0)
    have Z5 : n0 ≤ T5.heap.size := Nat.le_trans Z1 K5.1
    have K5k := K1.trans K5 (allS (Or.inr sz_b1) all0)
    have V_b1 := V5q
    show Gl p.tables e below PP (T5.setTop (mkF m 12 #[.val (.ref a1), .val (.int (0 : Int32)), .val (.int (1 : Int32)), .val (.ref b1), .unset, .unset] [(.int (1 : Int32))]))
    refine Gl.pre (fun _ k => XS.istore X5.here hx rfl (hb hby d9_12) rfl (l' := #[.val (.ref a1), .val (.int (0 : Int32)), .val (.int (1 : Int32)), .val (.ref b1), .val (.int (1 : Int32)), .unset]) rfl k) ?_
    show Gl p.tables e below PP (T5.setTop (mkF m 14 #[.val (.ref a1), .val (.int (0 : Int32)), .val (.int (1 : Int32)), .val (.ref b1), .val (.int (1 : Int32)), .unset] []))
    refine Gl.pre (fun _ k => XS.iload X5.here hx rfl (hb hby d9_14) rfl k) ?_
    show Gl p.tables e below PP (T5.setTop (mkF m 16 #[.val (.ref a1), .val (.int (0 : Int32)), .val (.int (1 : Int32)), .val (.ref b1), .val (.int (1 : Int32)), .unset] [(.int (1 : Int32))]))
    refine Gl.pre (fun _ k => XS.iloadN X5.here hx rfl (hb hby d9_16) rfl k) ?_
    show Gl p.tables e below PP (T5.setTop (mkF m 17 #[.val (.ref a1), .val (.int (0 : Int32)), .val (.int (1 : Int32)), .val (.ref b1), .val (.int (1 : Int32)), .unset] [(.int (1 : Int32)), (.int (1 : Int32))]))
    refine Gl.pre (fun _ k => XS.icmpYes X5.here hx rfl (pc0 := 17) (pc' := 57) rfl (hb hby d9_17) rfl (teq (show (1 : Int32) = (1 : Int32) from (by decide))).1 (by decide) (by decide) k) ?_
    show Gl p.tables e below PP (T5.setTop (mkF m 57 #[.val (.ref a1), .val (.int (0 : Int32)), .val (.int (1 : Int32)), .val (.ref b1), .val (.int (1 : Int32)), .unset] []))
    refine Gl.pre (fun _ k => XS.aloadN X5.here hx rfl (hb hby d9_57) rfl rfl k) ?_
    show Gl p.tables e below PP (T5.setTop (mkF m 58 #[.val (.ref a1), .val (.int (0 : Int32)), .val (.int (1 : Int32)), .val (.ref b1), .val (.int (1 : Int32)), .unset] [(.ref b1)]))
    rw [hPP]
    refine own_finA (Q := (Qcm1 Z a1 c0 h0 n0)) X5 hx hlk Bd.returns rfl rfl (hb hby d9_58) ?_ (by decide) (by decide)
    show Qcm1 Z a1 c0 h0 n0 _ T5.heap _
    exact ⟨b1, ys5, rfl, N5, sz_b1, K5k, Or.inl hys5, V_b1⟩
theorem ef_cz2_0 (m : MethodId) (a1 : Addr) (a2 : Addr) (c0 : Int32) (c1 : Int32) : entryFrame m #[(.ref a1), (.int (0 : Int32)), (.ref a2), (.int (0 : Int32)), (.int (2 : Int32))] 7 = mkF m 0 #[.val (.ref a1), .val (.int (0 : Int32)), .val (.ref a2), .val (.int (0 : Int32)), .val (.int (2 : Int32)), .unset, .unset] [] := by first | (simp [entryFrame, mkF, argsToLocals, Value.category]; done) | rfl
def Qcz2_0 (Z : State) (a1 : Addr) (a2 : Addr) (c0 : Int32) (c1 : Int32) (h0 : Heap) (n0 : Nat) (v : Option Value) (h : Heap) (L : List Loc) : Prop := v = some (.int (0 : Int32)) ∧ Fr n0 L ∧ Keep h0 h [a2] ∧ ∃ ys : List Int32, ys.length = 2 ∧ Bal Z h a2 .byte ys
set_option maxRecDepth 65536 in
set_option maxHeartbeats 40000000 in
theorem rmcz2_0 (l : Launch) (Z : State) (a0 : Array Value) (hw : ∀ d ∈ tables_1, d.before a0 Z = true) (ws : List Jvm.Cond) (a1 : Addr) (a2 : Addr) (c0 : Int32) (c1 : Int32) (h0 : Heap) (n0 : Nat) (Z0 : n0 ≤ h0.size) (V_a1 : Bal Z h0 a1 .char [c0, c1]) (V_a2 : Bal Z h0 a2 .byte [(0 : Int32), (0 : Int32)]) (g_a2 : n0 ≤ a2) (own_ne_a1_a2 : a1 ≠ a2) (own_ne_a2_a1 : a2 ≠ a1) (hc0 : (255 : Int32) < c0) :
    MetFree l (⟨"java/lang/StringUTF16", "compress", "([CI[BII)I"⟩ : MethodName) (head1 (Jvm.Cond.code (⟨"java/lang/StringUTF16", "compress", "([CI[BII)I"⟩ : MethodName) jdk_52_method_21_code 7 (some .int) :: ws) ({ frames := 0, cells := 0, slots := 0, locals := 0 } : Room)) (fun a U => a = #[(.ref a1), (.int (0 : Int32)), (.ref a2), (.int (0 : Int32)), (.int (2 : Int32))] ∧ Z.Warmed39 U.vm ∧ U.heap = h0) (fun _ _ _ _ _ => True) (fun _ U o U' => ∃ v L, o = .returned v ∧ Qcz2_0 Z a1 a2 c0 c1 h0 n0 v U'.heap L ∧ FrameEnd U o U' L ({ frames := 0, cells := 0, slots := 0, locals := 0 } : Room).cells ({ frames := 0, cells := 0, slots := 0, locals := 0 } : Room).slots) := by
  refine MetFree.of_bodySF (plainFor_of_name pn_10) hisR ?_
  intro p e s m args below meth c s₁ Bd hml0 hP hK
  obtain ⟨rfl, hZ, hh⟩ := hP
  have hx := Bd.exec
  have hby := Bd.bytes
  have hlk : meth.locks = false := BodyLoose.notSynchronized Bd
  have hml : c.maxLocals = 7 := hml0
  have hown : s.vm.findClass "java/lang/StringUTF16" = some m.cls := findClass_of_methodNamed Bd.named
  have hnm := (name_of_methodNamed Bd.named Bd.method).1
  have X0 : Stand p l e ({ frames := 0, cells := 0, slots := 0, locals := 0 } : Room) s m #[(.ref a1), (.int (0 : Int32)), (.ref a2), (.int (0 : Int32)), (.int (2 : Int32))] below meth c s₁ [] 0 0 := Stand.of_body Bd
  have e0 : s₁.heap = h0 := by rw [← hh, Bd.state]; rfl
  have N0 := Fr.nil n0
  show Gl p.tables e below (fun (o : Outcome) (U' : State) => ∃ v L, o = .returned v ∧ Qcz2_0 Z a1 a2 c0 c1 h0 n0 v U'.heap L ∧ FrameEnd s o U' L ({ frames := 0, cells := 0, slots := 0, locals := 0 } : Room).cells ({ frames := 0, cells := 0, slots := 0, locals := 0 } : Room).slots) _
  refine Gl.pre (fun t k => castTop (ef_cz2_0 m a1 a2 c0 c1) k) ?_
  obtain ⟨PP, hPP⟩ : ∃ P : Outcome → State → Prop, P = (fun (o : Outcome) (U' : State) => ∃ v L, o = .returned v ∧ Qcz2_0 Z a1 a2 c0 c1 h0 n0 v U'.heap L ∧ FrameEnd s o U' L ({ frames := 0, cells := 0, slots := 0, locals := 0 } : Room).cells ({ frames := 0, cells := 0, slots := 0, locals := 0 } : Room).slots) := ⟨_, rfl⟩
  rw [← hPP]
  have K0 : Keep h0 h0 [a2] := Keep.refl h0 _
  show Gl p.tables e below PP (s₁.setTop (mkF m 0 #[.val (.ref a1), .val (.int (0 : Int32)), .val (.ref a2), .val (.int (0 : Int32)), .val (.int (2 : Int32)), .unset, .unset] []))
  refine Gl.pre (fun _ k => XS.iconst X0.here hx rfl (hb hby d10_0) k) ?_
  show Gl p.tables e below PP (s₁.setTop (mkF m 1 #[.val (.ref a1), .val (.int (0 : Int32)), .val (.ref a2), .val (.int (0 : Int32)), .val (.int (2 : Int32)), .unset, .unset] [(.int (0 : Int32))]))
  refine Gl.pre (fun _ k => XS.istore X0.here hx rfl (hb hby d10_1) rfl (l' := #[.val (.ref a1), .val (.int (0 : Int32)), .val (.ref a2), .val (.int (0 : Int32)), .val (.int (2 : Int32)), .val (.int (0 : Int32)), .unset]) rfl k) ?_
  show Gl p.tables e below PP (s₁.setTop (mkF m 3 #[.val (.ref a1), .val (.int (0 : Int32)), .val (.ref a2), .val (.int (0 : Int32)), .val (.int (2 : Int32)), .val (.int (0 : Int32)), .unset] []))
  refine Gl.pre (fun _ k => XS.iload X0.here hx rfl (hb hby d10_3) rfl k) ?_
  show Gl p.tables e below PP (s₁.setTop (mkF m 5 #[.val (.ref a1), .val (.int (0 : Int32)), .val (.ref a2), .val (.int (0 : Int32)), .val (.int (2 : Int32)), .val (.int (0 : Int32)), .unset] [(.int (0 : Int32))]))
  refine Gl.pre (fun _ k => XS.iload X0.here hx rfl (hb hby d10_5) rfl k) ?_
  show Gl p.tables e below PP (s₁.setTop (mkF m 7 #[.val (.ref a1), .val (.int (0 : Int32)), .val (.ref a2), .val (.int (0 : Int32)), .val (.int (2 : Int32)), .val (.int (0 : Int32)), .unset] [(.int (2 : Int32)), (.int (0 : Int32))]))
  refine Gl.pre (fun _ k => XS.icmpNo X0.here hx rfl (hb hby d10_7) rfl (tlt (show (0 : Int32) < (2 : Int32) from (by decide))).2.1 k) ?_
  show Gl p.tables e below PP (s₁.setTop (mkF m 10 #[.val (.ref a1), .val (.int (0 : Int32)), .val (.ref a2), .val (.int (0 : Int32)), .val (.int (2 : Int32)), .val (.int (0 : Int32)), .unset] []))
  refine Gl.pre (fun _ k => XS.aloadN X0.here hx rfl (hb hby d10_10) rfl rfl k) ?_
  show Gl p.tables e below PP (s₁.setTop (mkF m 11 #[.val (.ref a1), .val (.int (0 : Int32)), .val (.ref a2), .val (.int (0 : Int32)), .val (.int (2 : Int32)), .val (.int (0 : Int32)), .unset] [(.ref a1)]))
  refine Gl.pre (fun _ k => XS.iloadN X0.here hx rfl (hb hby d10_11) rfl k) ?_
  show Gl p.tables e below PP (s₁.setTop (mkF m 12 #[.val (.ref a1), .val (.int (0 : Int32)), .val (.ref a2), .val (.int (0 : Int32)), .val (.int (2 : Int32)), .val (.int (0 : Int32)), .unset] [(.int (0 : Int32)), (.ref a1)]))
  refine Gl.pre (fun _ k => own_ldC X0 hx hZ e0 V_a1 (j := (0 : Int32)) (i := 0) (by decide) (by decide) (Nat.lt_of_lt_of_eq (by decide : 0 < 2) rfl) (v := c0) rfl (g := (mkF m 12 #[.val (.ref a1), .val (.int (0 : Int32)), .val (.ref a2), .val (.int (0 : Int32)), .val (.int (2 : Int32)), .val (.int (0 : Int32)), .unset] [(.int (0 : Int32)), (.ref a1)])) rfl rfl (hb hby d10_12) _ k) ?_
  show Gl p.tables e below PP (s₁.setTop (mkF m 13 #[.val (.ref a1), .val (.int (0 : Int32)), .val (.ref a2), .val (.int (0 : Int32)), .val (.int (2 : Int32)), .val (.int (0 : Int32)), .unset] [(.int c0)]))
  refine Gl.pre (fun _ k => XS.istore X0.here hx rfl (hb hby d10_13) rfl (l' := #[.val (.ref a1), .val (.int (0 : Int32)), .val (.ref a2), .val (.int (0 : Int32)), .val (.int (2 : Int32)), .val (.int (0 : Int32)), .val (.int c0)]) rfl k) ?_
  show Gl p.tables e below PP (s₁.setTop (mkF m 15 #[.val (.ref a1), .val (.int (0 : Int32)), .val (.ref a2), .val (.int (0 : Int32)), .val (.int (2 : Int32)), .val (.int (0 : Int32)), .val (.int c0)] []))
  refine Gl.pre (fun _ k => XS.iload X0.here hx rfl (hb hby d10_15) rfl k) ?_
  show Gl p.tables e below PP (s₁.setTop (mkF m 17 #[.val (.ref a1), .val (.int (0 : Int32)), .val (.ref a2), .val (.int (0 : Int32)), .val (.int (2 : Int32)), .val (.int (0 : Int32)), .val (.int c0)] [(.int c0)]))
  refine Gl.pre (fun _ k => XS.sipush X0.here hx rfl (hb hby d10_17) k) ?_
  show Gl p.tables e below PP (s₁.setTop (mkF m 20 #[.val (.ref a1), .val (.int (0 : Int32)), .val (.ref a2), .val (.int (0 : Int32)), .val (.int (2 : Int32)), .val (.int (0 : Int32)), .val (.int c0)] [(.int (255 : Int32)), (.int c0)]))
  refine Gl.pre (fun _ k => XS.icmpNo X0.here hx rfl (hb hby d10_20) rfl (tlt (show (255 : Int32) < c0 from hc0)).2.2.2 k) ?_
  show Gl p.tables e below PP (s₁.setTop (mkF m 23 #[.val (.ref a1), .val (.int (0 : Int32)), .val (.ref a2), .val (.int (0 : Int32)), .val (.int (2 : Int32)), .val (.int (0 : Int32)), .val (.int c0)] []))
  refine Gl.pre (fun _ k => XS.iload X0.here hx rfl (hb hby d10_23) rfl k) ?_
  show Gl p.tables e below PP (s₁.setTop (mkF m 25 #[.val (.ref a1), .val (.int (0 : Int32)), .val (.ref a2), .val (.int (0 : Int32)), .val (.int (2 : Int32)), .val (.int (0 : Int32)), .val (.int c0)] [(.int (0 : Int32))]))
  rw [hPP]
  refine own_finI (Q := (Qcz2_0 Z a1 a2 c0 c1 h0 n0)) X0 hx hlk Bd.returns (hb hby d10_25) ?_ (by decide) (by decide)
  show Qcz2_0 Z a1 a2 c0 c1 h0 n0 _ s₁.heap _
  rw [e0]
  exact ⟨rfl, N0, K0, _, rfl, V_a2⟩
theorem ef_cz2_1 (m : MethodId) (a1 : Addr) (a2 : Addr) (c0 : Int32) (c1 : Int32) : entryFrame m #[(.ref a1), (.int (0 : Int32)), (.ref a2), (.int (0 : Int32)), (.int (2 : Int32))] 7 = mkF m 0 #[.val (.ref a1), .val (.int (0 : Int32)), .val (.ref a2), .val (.int (0 : Int32)), .val (.int (2 : Int32)), .unset, .unset] [] := by first | (simp [entryFrame, mkF, argsToLocals, Value.category]; done) | rfl
def Qcz2_1 (Z : State) (a1 : Addr) (a2 : Addr) (c0 : Int32) (c1 : Int32) (h0 : Heap) (n0 : Nat) (v : Option Value) (h : Heap) (L : List Loc) : Prop := v = some (.int (1 : Int32)) ∧ Fr n0 L ∧ Keep h0 h [a2] ∧ ∃ ys : List Int32, ys.length = 2 ∧ Bal Z h a2 .byte ys
set_option maxRecDepth 65536 in
set_option maxHeartbeats 40000000 in
theorem rmcz2_1 (l : Launch) (Z : State) (a0 : Array Value) (hw : ∀ d ∈ tables_1, d.before a0 Z = true) (ws : List Jvm.Cond) (a1 : Addr) (a2 : Addr) (c0 : Int32) (c1 : Int32) (h0 : Heap) (n0 : Nat) (Z0 : n0 ≤ h0.size) (V_a1 : Bal Z h0 a1 .char [c0, c1]) (V_a2 : Bal Z h0 a2 .byte [(0 : Int32), (0 : Int32)]) (g_a2 : n0 ≤ a2) (own_ne_a1_a2 : a1 ≠ a2) (own_ne_a2_a1 : a2 ≠ a1) (hc0 : ¬ ((255 : Int32) < c0)) (hc1 : (255 : Int32) < c1) :
    MetFree l (⟨"java/lang/StringUTF16", "compress", "([CI[BII)I"⟩ : MethodName) (head1 (Jvm.Cond.code (⟨"java/lang/StringUTF16", "compress", "([CI[BII)I"⟩ : MethodName) jdk_52_method_21_code 7 (some .int) :: ws) ({ frames := 0, cells := 0, slots := 0, locals := 0 } : Room)) (fun a U => a = #[(.ref a1), (.int (0 : Int32)), (.ref a2), (.int (0 : Int32)), (.int (2 : Int32))] ∧ Z.Warmed39 U.vm ∧ U.heap = h0) (fun _ _ _ _ _ => True) (fun _ U o U' => ∃ v L, o = .returned v ∧ Qcz2_1 Z a1 a2 c0 c1 h0 n0 v U'.heap L ∧ FrameEnd U o U' L ({ frames := 0, cells := 0, slots := 0, locals := 0 } : Room).cells ({ frames := 0, cells := 0, slots := 0, locals := 0 } : Room).slots) := by
  refine MetFree.of_bodySF (plainFor_of_name pn_10) hisR ?_
  intro p e s m args below meth c s₁ Bd hml0 hP hK
  obtain ⟨rfl, hZ, hh⟩ := hP
  have hx := Bd.exec
  have hby := Bd.bytes
  have hlk : meth.locks = false := BodyLoose.notSynchronized Bd
  have hml : c.maxLocals = 7 := hml0
  have hown : s.vm.findClass "java/lang/StringUTF16" = some m.cls := findClass_of_methodNamed Bd.named
  have hnm := (name_of_methodNamed Bd.named Bd.method).1
  have X0 : Stand p l e ({ frames := 0, cells := 0, slots := 0, locals := 0 } : Room) s m #[(.ref a1), (.int (0 : Int32)), (.ref a2), (.int (0 : Int32)), (.int (2 : Int32))] below meth c s₁ [] 0 0 := Stand.of_body Bd
  have e0 : s₁.heap = h0 := by rw [← hh, Bd.state]; rfl
  have N0 := Fr.nil n0
  show Gl p.tables e below (fun (o : Outcome) (U' : State) => ∃ v L, o = .returned v ∧ Qcz2_1 Z a1 a2 c0 c1 h0 n0 v U'.heap L ∧ FrameEnd s o U' L ({ frames := 0, cells := 0, slots := 0, locals := 0 } : Room).cells ({ frames := 0, cells := 0, slots := 0, locals := 0 } : Room).slots) _
  refine Gl.pre (fun t k => castTop (ef_cz2_1 m a1 a2 c0 c1) k) ?_
  obtain ⟨PP, hPP⟩ : ∃ P : Outcome → State → Prop, P = (fun (o : Outcome) (U' : State) => ∃ v L, o = .returned v ∧ Qcz2_1 Z a1 a2 c0 c1 h0 n0 v U'.heap L ∧ FrameEnd s o U' L ({ frames := 0, cells := 0, slots := 0, locals := 0 } : Room).cells ({ frames := 0, cells := 0, slots := 0, locals := 0 } : Room).slots) := ⟨_, rfl⟩
  rw [← hPP]
  have K0 : Keep h0 h0 [a2] := Keep.refl h0 _
  show Gl p.tables e below PP (s₁.setTop (mkF m 0 #[.val (.ref a1), .val (.int (0 : Int32)), .val (.ref a2), .val (.int (0 : Int32)), .val (.int (2 : Int32)), .unset, .unset] []))
  refine Gl.pre (fun _ k => XS.iconst X0.here hx rfl (hb hby d10_0) k) ?_
  show Gl p.tables e below PP (s₁.setTop (mkF m 1 #[.val (.ref a1), .val (.int (0 : Int32)), .val (.ref a2), .val (.int (0 : Int32)), .val (.int (2 : Int32)), .unset, .unset] [(.int (0 : Int32))]))
  refine Gl.pre (fun _ k => XS.istore X0.here hx rfl (hb hby d10_1) rfl (l' := #[.val (.ref a1), .val (.int (0 : Int32)), .val (.ref a2), .val (.int (0 : Int32)), .val (.int (2 : Int32)), .val (.int (0 : Int32)), .unset]) rfl k) ?_
  show Gl p.tables e below PP (s₁.setTop (mkF m 3 #[.val (.ref a1), .val (.int (0 : Int32)), .val (.ref a2), .val (.int (0 : Int32)), .val (.int (2 : Int32)), .val (.int (0 : Int32)), .unset] []))
  refine Gl.pre (fun _ k => XS.iload X0.here hx rfl (hb hby d10_3) rfl k) ?_
  show Gl p.tables e below PP (s₁.setTop (mkF m 5 #[.val (.ref a1), .val (.int (0 : Int32)), .val (.ref a2), .val (.int (0 : Int32)), .val (.int (2 : Int32)), .val (.int (0 : Int32)), .unset] [(.int (0 : Int32))]))
  refine Gl.pre (fun _ k => XS.iload X0.here hx rfl (hb hby d10_5) rfl k) ?_
  show Gl p.tables e below PP (s₁.setTop (mkF m 7 #[.val (.ref a1), .val (.int (0 : Int32)), .val (.ref a2), .val (.int (0 : Int32)), .val (.int (2 : Int32)), .val (.int (0 : Int32)), .unset] [(.int (2 : Int32)), (.int (0 : Int32))]))
  refine Gl.pre (fun _ k => XS.icmpNo X0.here hx rfl (hb hby d10_7) rfl (tlt (show (0 : Int32) < (2 : Int32) from (by decide))).2.1 k) ?_
  show Gl p.tables e below PP (s₁.setTop (mkF m 10 #[.val (.ref a1), .val (.int (0 : Int32)), .val (.ref a2), .val (.int (0 : Int32)), .val (.int (2 : Int32)), .val (.int (0 : Int32)), .unset] []))
  refine Gl.pre (fun _ k => XS.aloadN X0.here hx rfl (hb hby d10_10) rfl rfl k) ?_
  show Gl p.tables e below PP (s₁.setTop (mkF m 11 #[.val (.ref a1), .val (.int (0 : Int32)), .val (.ref a2), .val (.int (0 : Int32)), .val (.int (2 : Int32)), .val (.int (0 : Int32)), .unset] [(.ref a1)]))
  refine Gl.pre (fun _ k => XS.iloadN X0.here hx rfl (hb hby d10_11) rfl k) ?_
  show Gl p.tables e below PP (s₁.setTop (mkF m 12 #[.val (.ref a1), .val (.int (0 : Int32)), .val (.ref a2), .val (.int (0 : Int32)), .val (.int (2 : Int32)), .val (.int (0 : Int32)), .unset] [(.int (0 : Int32)), (.ref a1)]))
  refine Gl.pre (fun _ k => own_ldC X0 hx hZ e0 V_a1 (j := (0 : Int32)) (i := 0) (by decide) (by decide) (Nat.lt_of_lt_of_eq (by decide : 0 < 2) rfl) (v := c0) rfl (g := (mkF m 12 #[.val (.ref a1), .val (.int (0 : Int32)), .val (.ref a2), .val (.int (0 : Int32)), .val (.int (2 : Int32)), .val (.int (0 : Int32)), .unset] [(.int (0 : Int32)), (.ref a1)])) rfl rfl (hb hby d10_12) _ k) ?_
  show Gl p.tables e below PP (s₁.setTop (mkF m 13 #[.val (.ref a1), .val (.int (0 : Int32)), .val (.ref a2), .val (.int (0 : Int32)), .val (.int (2 : Int32)), .val (.int (0 : Int32)), .unset] [(.int c0)]))
  refine Gl.pre (fun _ k => XS.istore X0.here hx rfl (hb hby d10_13) rfl (l' := #[.val (.ref a1), .val (.int (0 : Int32)), .val (.ref a2), .val (.int (0 : Int32)), .val (.int (2 : Int32)), .val (.int (0 : Int32)), .val (.int c0)]) rfl k) ?_
  show Gl p.tables e below PP (s₁.setTop (mkF m 15 #[.val (.ref a1), .val (.int (0 : Int32)), .val (.ref a2), .val (.int (0 : Int32)), .val (.int (2 : Int32)), .val (.int (0 : Int32)), .val (.int c0)] []))
  refine Gl.pre (fun _ k => XS.iload X0.here hx rfl (hb hby d10_15) rfl k) ?_
  show Gl p.tables e below PP (s₁.setTop (mkF m 17 #[.val (.ref a1), .val (.int (0 : Int32)), .val (.ref a2), .val (.int (0 : Int32)), .val (.int (2 : Int32)), .val (.int (0 : Int32)), .val (.int c0)] [(.int c0)]))
  refine Gl.pre (fun _ k => XS.sipush X0.here hx rfl (hb hby d10_17) k) ?_
  show Gl p.tables e below PP (s₁.setTop (mkF m 20 #[.val (.ref a1), .val (.int (0 : Int32)), .val (.ref a2), .val (.int (0 : Int32)), .val (.int (2 : Int32)), .val (.int (0 : Int32)), .val (.int c0)] [(.int (255 : Int32)), (.int c0)]))
  refine Gl.pre (fun _ k => XS.icmpYes X0.here hx rfl (pc0 := 20) (pc' := 26) rfl (hb hby d10_20) rfl (flt (show ¬ ((255 : Int32) < c0) from hc0)).2.2.2 (by decide) (by decide) k) ?_
  show Gl p.tables e below PP (s₁.setTop (mkF m 26 #[.val (.ref a1), .val (.int (0 : Int32)), .val (.ref a2), .val (.int (0 : Int32)), .val (.int (2 : Int32)), .val (.int (0 : Int32)), .val (.int c0)] []))
  refine Gl.pre (fun _ k => XS.aloadN X0.here hx rfl (hb hby d10_26) rfl rfl k) ?_
  show Gl p.tables e below PP (s₁.setTop (mkF m 27 #[.val (.ref a1), .val (.int (0 : Int32)), .val (.ref a2), .val (.int (0 : Int32)), .val (.int (2 : Int32)), .val (.int (0 : Int32)), .val (.int c0)] [(.ref a2)]))
  refine Gl.pre (fun _ k => XS.iloadN X0.here hx rfl (hb hby d10_27) rfl k) ?_
  show Gl p.tables e below PP (s₁.setTop (mkF m 28 #[.val (.ref a1), .val (.int (0 : Int32)), .val (.ref a2), .val (.int (0 : Int32)), .val (.int (2 : Int32)), .val (.int (0 : Int32)), .val (.int c0)] [(.int (0 : Int32)), (.ref a2)]))
  refine Gl.pre (fun _ k => XS.iload X0.here hx rfl (hb hby d10_28) rfl k) ?_
  show Gl p.tables e below PP (s₁.setTop (mkF m 30 #[.val (.ref a1), .val (.int (0 : Int32)), .val (.ref a2), .val (.int (0 : Int32)), .val (.int (2 : Int32)), .val (.int (0 : Int32)), .val (.int c0)] [(.int c0), (.int (0 : Int32)), (.ref a2)]))
  refine Gl.pre (fun _ k => XS.i2b X0.here hx rfl (hb hby d10_30) rfl k) ?_
  show Gl p.tables e below PP (s₁.setTop (mkF m 31 #[.val (.ref a1), .val (.int (0 : Int32)), .val (.ref a2), .val (.int (0 : Int32)), .val (.int (2 : Int32)), .val (.int (0 : Int32)), .val (.int c0)] [(.int (c0.toInt8.toInt32)), (.int (0 : Int32)), (.ref a2)]))
  obtain ⟨T1, h1, X1, e1, W1, V1, st1⟩ := own_stB X0 hx hZ e0 V_a2 (j := (0 : Int32)) (i := 0) (by decide) (by decide) (Nat.lt_of_lt_of_eq (by decide : 0 < 2) rfl) (g := (mkF m 31 #[.val (.ref a1), .val (.int (0 : Int32)), .val (.ref a2), .val (.int (0 : Int32)), .val (.int (2 : Int32)), .val (.int (0 : Int32)), .val (.int c0)] [(.int (c0.toInt8.toInt32)), (.int (0 : Int32)), (.ref a2)])) rfl rfl (hb hby d10_31)
  refine Gl.pre (fun _ k => st1 _ k) ?_
  have V_a1 := V_a1.other W1 (own_ne_a1_a2)
  have Z1 : n0 ≤ h1.size := by rw [W1.size]; exact Z0
  have N1 := Fr.snoc X1 N0 g_a2
  have K1 := K0.wr W1 (Or.inl (List.mem_of_getElem? (i := 0) rfl))
  have V_a2 : Bal Z h1 a2 .byte [(nar .byte (c0.toInt8.toInt32)), (0 : Int32)] := V1
  show Gl p.tables e below PP (T1.setTop (mkF m 32 #[.val (.ref a1), .val (.int (0 : Int32)), .val (.ref a2), .val (.int (0 : Int32)), .val (.int (2 : Int32)), .val (.int (0 : Int32)), .val (.int c0)] []))
  refine Gl.pre (fun _ k => XS.iinc X1.here hx rfl (hb hby d10_32) rfl (l' := #[.val (.ref a1), .val (.int (1 : Int32)), .val (.ref a2), .val (.int (0 : Int32)), .val (.int (2 : Int32)), .val (.int (0 : Int32)), .val (.int c0)]) rfl k) ?_
  show Gl p.tables e below PP (T1.setTop (mkF m 35 #[.val (.ref a1), .val (.int (1 : Int32)), .val (.ref a2), .val (.int (0 : Int32)), .val (.int (2 : Int32)), .val (.int (0 : Int32)), .val (.int c0)] []))
  refine Gl.pre (fun _ k => XS.iinc X1.here hx rfl (hb hby d10_35) rfl (l' := #[.val (.ref a1), .val (.int (1 : Int32)), .val (.ref a2), .val (.int (1 : Int32)), .val (.int (2 : Int32)), .val (.int (0 : Int32)), .val (.int c0)]) rfl k) ?_
  show Gl p.tables e below PP (T1.setTop (mkF m 38 #[.val (.ref a1), .val (.int (1 : Int32)), .val (.ref a2), .val (.int (1 : Int32)), .val (.int (2 : Int32)), .val (.int (0 : Int32)), .val (.int c0)] []))
  refine Gl.pre (fun _ k => XS.iinc X1.here hx rfl (hb hby d10_38) rfl (l' := #[.val (.ref a1), .val (.int (1 : Int32)), .val (.ref a2), .val (.int (1 : Int32)), .val (.int (2 : Int32)), .val (.int (1 : Int32)), .val (.int c0)]) rfl k) ?_
  show Gl p.tables e below PP (T1.setTop (mkF m 41 #[.val (.ref a1), .val (.int (1 : Int32)), .val (.ref a2), .val (.int (1 : Int32)), .val (.int (2 : Int32)), .val (.int (1 : Int32)), .val (.int c0)] []))
  refine Gl.pre (fun _ k => XS.goto X1.here hx rfl (pc0 := 41) (pc' := 3) rfl (hb hby d10_41) (by decide) (by decide) k) ?_
  show Gl p.tables e below PP (T1.setTop (mkF m 3 #[.val (.ref a1), .val (.int (1 : Int32)), .val (.ref a2), .val (.int (1 : Int32)), .val (.int (2 : Int32)), .val (.int (1 : Int32)), .val (.int c0)] []))
  refine Gl.pre (fun _ k => XS.iload X1.here hx rfl (hb hby d10_3) rfl k) ?_
  show Gl p.tables e below PP (T1.setTop (mkF m 5 #[.val (.ref a1), .val (.int (1 : Int32)), .val (.ref a2), .val (.int (1 : Int32)), .val (.int (2 : Int32)), .val (.int (1 : Int32)), .val (.int c0)] [(.int (1 : Int32))]))
  refine Gl.pre (fun _ k => XS.iload X1.here hx rfl (hb hby d10_5) rfl k) ?_
  show Gl p.tables e below PP (T1.setTop (mkF m 7 #[.val (.ref a1), .val (.int (1 : Int32)), .val (.ref a2), .val (.int (1 : Int32)), .val (.int (2 : Int32)), .val (.int (1 : Int32)), .val (.int c0)] [(.int (2 : Int32)), (.int (1 : Int32))]))
  refine Gl.pre (fun _ k => XS.icmpNo X1.here hx rfl (hb hby d10_7) rfl (tlt (show (1 : Int32) < (2 : Int32) from (by decide))).2.1 k) ?_
  show Gl p.tables e below PP (T1.setTop (mkF m 10 #[.val (.ref a1), .val (.int (1 : Int32)), .val (.ref a2), .val (.int (1 : Int32)), .val (.int (2 : Int32)), .val (.int (1 : Int32)), .val (.int c0)] []))
  refine Gl.pre (fun _ k => XS.aloadN X1.here hx rfl (hb hby d10_10) rfl rfl k) ?_
  show Gl p.tables e below PP (T1.setTop (mkF m 11 #[.val (.ref a1), .val (.int (1 : Int32)), .val (.ref a2), .val (.int (1 : Int32)), .val (.int (2 : Int32)), .val (.int (1 : Int32)), .val (.int c0)] [(.ref a1)]))
  refine Gl.pre (fun _ k => XS.iloadN X1.here hx rfl (hb hby d10_11) rfl k) ?_
  show Gl p.tables e below PP (T1.setTop (mkF m 12 #[.val (.ref a1), .val (.int (1 : Int32)), .val (.ref a2), .val (.int (1 : Int32)), .val (.int (2 : Int32)), .val (.int (1 : Int32)), .val (.int c0)] [(.int (1 : Int32)), (.ref a1)]))
  refine Gl.pre (fun _ k => own_ldC X1 hx hZ e1 V_a1 (j := (1 : Int32)) (i := 1) (by decide) (by decide) (Nat.lt_of_lt_of_eq (by decide : 1 < 2) rfl) (v := c1) rfl (g := (mkF m 12 #[.val (.ref a1), .val (.int (1 : Int32)), .val (.ref a2), .val (.int (1 : Int32)), .val (.int (2 : Int32)), .val (.int (1 : Int32)), .val (.int c0)] [(.int (1 : Int32)), (.ref a1)])) rfl rfl (hb hby d10_12) _ k) ?_
  show Gl p.tables e below PP (T1.setTop (mkF m 13 #[.val (.ref a1), .val (.int (1 : Int32)), .val (.ref a2), .val (.int (1 : Int32)), .val (.int (2 : Int32)), .val (.int (1 : Int32)), .val (.int c0)] [(.int c1)]))
  refine Gl.pre (fun _ k => XS.istore X1.here hx rfl (hb hby d10_13) rfl (l' := #[.val (.ref a1), .val (.int (1 : Int32)), .val (.ref a2), .val (.int (1 : Int32)), .val (.int (2 : Int32)), .val (.int (1 : Int32)), .val (.int c1)]) rfl k) ?_
  show Gl p.tables e below PP (T1.setTop (mkF m 15 #[.val (.ref a1), .val (.int (1 : Int32)), .val (.ref a2), .val (.int (1 : Int32)), .val (.int (2 : Int32)), .val (.int (1 : Int32)), .val (.int c1)] []))
  refine Gl.pre (fun _ k => XS.iload X1.here hx rfl (hb hby d10_15) rfl k) ?_
  show Gl p.tables e below PP (T1.setTop (mkF m 17 #[.val (.ref a1), .val (.int (1 : Int32)), .val (.ref a2), .val (.int (1 : Int32)), .val (.int (2 : Int32)), .val (.int (1 : Int32)), .val (.int c1)] [(.int c1)]))
  refine Gl.pre (fun _ k => XS.sipush X1.here hx rfl (hb hby d10_17) k) ?_
  show Gl p.tables e below PP (T1.setTop (mkF m 20 #[.val (.ref a1), .val (.int (1 : Int32)), .val (.ref a2), .val (.int (1 : Int32)), .val (.int (2 : Int32)), .val (.int (1 : Int32)), .val (.int c1)] [(.int (255 : Int32)), (.int c1)]))
  refine Gl.pre (fun _ k => XS.icmpNo X1.here hx rfl (hb hby d10_20) rfl (tlt (show (255 : Int32) < c1 from hc1)).2.2.2 k) ?_
  show Gl p.tables e below PP (T1.setTop (mkF m 23 #[.val (.ref a1), .val (.int (1 : Int32)), .val (.ref a2), .val (.int (1 : Int32)), .val (.int (2 : Int32)), .val (.int (1 : Int32)), .val (.int c1)] []))
  refine Gl.pre (fun _ k => XS.iload X1.here hx rfl (hb hby d10_23) rfl k) ?_
  show Gl p.tables e below PP (T1.setTop (mkF m 25 #[.val (.ref a1), .val (.int (1 : Int32)), .val (.ref a2), .val (.int (1 : Int32)), .val (.int (2 : Int32)), .val (.int (1 : Int32)), .val (.int c1)] [(.int (1 : Int32))]))
  rw [hPP]
  refine own_finI (Q := (Qcz2_1 Z a1 a2 c0 c1 h0 n0)) X1 hx hlk Bd.returns (hb hby d10_25) ?_ (by decide) (by decide)
  show Qcz2_1 Z a1 a2 c0 c1 h0 n0 _ T1.heap _
  rw [e1]
  exact ⟨rfl, N1, K1, _, rfl, V_a2⟩
theorem ef_cz2_2 (m : MethodId) (a1 : Addr) (a2 : Addr) (c0 : Int32) (c1 : Int32) : entryFrame m #[(.ref a1), (.int (0 : Int32)), (.ref a2), (.int (0 : Int32)), (.int (2 : Int32))] 7 = mkF m 0 #[.val (.ref a1), .val (.int (0 : Int32)), .val (.ref a2), .val (.int (0 : Int32)), .val (.int (2 : Int32)), .unset, .unset] [] := by first | (simp [entryFrame, mkF, argsToLocals, Value.category]; done) | rfl
def Qcz2_2 (Z : State) (a1 : Addr) (a2 : Addr) (c0 : Int32) (c1 : Int32) (h0 : Heap) (n0 : Nat) (v : Option Value) (h : Heap) (L : List Loc) : Prop := v = some (.int (2 : Int32)) ∧ Fr n0 L ∧ Keep h0 h [a2] ∧ ∃ ys : List Int32, ys.length = 2 ∧ Bal Z h a2 .byte ys
set_option maxRecDepth 65536 in
set_option maxHeartbeats 40000000 in
theorem rmcz2_2 (l : Launch) (Z : State) (a0 : Array Value) (hw : ∀ d ∈ tables_1, d.before a0 Z = true) (ws : List Jvm.Cond) (a1 : Addr) (a2 : Addr) (c0 : Int32) (c1 : Int32) (h0 : Heap) (n0 : Nat) (Z0 : n0 ≤ h0.size) (V_a1 : Bal Z h0 a1 .char [c0, c1]) (V_a2 : Bal Z h0 a2 .byte [(0 : Int32), (0 : Int32)]) (g_a2 : n0 ≤ a2) (own_ne_a1_a2 : a1 ≠ a2) (own_ne_a2_a1 : a2 ≠ a1) (hc0 : ¬ ((255 : Int32) < c0)) (hc1 : ¬ ((255 : Int32) < c1)) :
    MetFree l (⟨"java/lang/StringUTF16", "compress", "([CI[BII)I"⟩ : MethodName) (head1 (Jvm.Cond.code (⟨"java/lang/StringUTF16", "compress", "([CI[BII)I"⟩ : MethodName) jdk_52_method_21_code 7 (some .int) :: ws) ({ frames := 0, cells := 0, slots := 0, locals := 0 } : Room)) (fun a U => a = #[(.ref a1), (.int (0 : Int32)), (.ref a2), (.int (0 : Int32)), (.int (2 : Int32))] ∧ Z.Warmed39 U.vm ∧ U.heap = h0) (fun _ _ _ _ _ => True) (fun _ U o U' => ∃ v L, o = .returned v ∧ Qcz2_2 Z a1 a2 c0 c1 h0 n0 v U'.heap L ∧ FrameEnd U o U' L ({ frames := 0, cells := 0, slots := 0, locals := 0 } : Room).cells ({ frames := 0, cells := 0, slots := 0, locals := 0 } : Room).slots) := by
  refine MetFree.of_bodySF (plainFor_of_name pn_10) hisR ?_
  intro p e s m args below meth c s₁ Bd hml0 hP hK
  obtain ⟨rfl, hZ, hh⟩ := hP
  have hx := Bd.exec
  have hby := Bd.bytes
  have hlk : meth.locks = false := BodyLoose.notSynchronized Bd
  have hml : c.maxLocals = 7 := hml0
  have hown : s.vm.findClass "java/lang/StringUTF16" = some m.cls := findClass_of_methodNamed Bd.named
  have hnm := (name_of_methodNamed Bd.named Bd.method).1
  have X0 : Stand p l e ({ frames := 0, cells := 0, slots := 0, locals := 0 } : Room) s m #[(.ref a1), (.int (0 : Int32)), (.ref a2), (.int (0 : Int32)), (.int (2 : Int32))] below meth c s₁ [] 0 0 := Stand.of_body Bd
  have e0 : s₁.heap = h0 := by rw [← hh, Bd.state]; rfl
  have N0 := Fr.nil n0
  show Gl p.tables e below (fun (o : Outcome) (U' : State) => ∃ v L, o = .returned v ∧ Qcz2_2 Z a1 a2 c0 c1 h0 n0 v U'.heap L ∧ FrameEnd s o U' L ({ frames := 0, cells := 0, slots := 0, locals := 0 } : Room).cells ({ frames := 0, cells := 0, slots := 0, locals := 0 } : Room).slots) _
  refine Gl.pre (fun t k => castTop (ef_cz2_2 m a1 a2 c0 c1) k) ?_
  obtain ⟨PP, hPP⟩ : ∃ P : Outcome → State → Prop, P = (fun (o : Outcome) (U' : State) => ∃ v L, o = .returned v ∧ Qcz2_2 Z a1 a2 c0 c1 h0 n0 v U'.heap L ∧ FrameEnd s o U' L ({ frames := 0, cells := 0, slots := 0, locals := 0 } : Room).cells ({ frames := 0, cells := 0, slots := 0, locals := 0 } : Room).slots) := ⟨_, rfl⟩
  rw [← hPP]
  have K0 : Keep h0 h0 [a2] := Keep.refl h0 _
  show Gl p.tables e below PP (s₁.setTop (mkF m 0 #[.val (.ref a1), .val (.int (0 : Int32)), .val (.ref a2), .val (.int (0 : Int32)), .val (.int (2 : Int32)), .unset, .unset] []))
  refine Gl.pre (fun _ k => XS.iconst X0.here hx rfl (hb hby d10_0) k) ?_
  show Gl p.tables e below PP (s₁.setTop (mkF m 1 #[.val (.ref a1), .val (.int (0 : Int32)), .val (.ref a2), .val (.int (0 : Int32)), .val (.int (2 : Int32)), .unset, .unset] [(.int (0 : Int32))]))
  refine Gl.pre (fun _ k => XS.istore X0.here hx rfl (hb hby d10_1) rfl (l' := #[.val (.ref a1), .val (.int (0 : Int32)), .val (.ref a2), .val (.int (0 : Int32)), .val (.int (2 : Int32)), .val (.int (0 : Int32)), .unset]) rfl k) ?_
  show Gl p.tables e below PP (s₁.setTop (mkF m 3 #[.val (.ref a1), .val (.int (0 : Int32)), .val (.ref a2), .val (.int (0 : Int32)), .val (.int (2 : Int32)), .val (.int (0 : Int32)), .unset] []))
  refine Gl.pre (fun _ k => XS.iload X0.here hx rfl (hb hby d10_3) rfl k) ?_
  show Gl p.tables e below PP (s₁.setTop (mkF m 5 #[.val (.ref a1), .val (.int (0 : Int32)), .val (.ref a2), .val (.int (0 : Int32)), .val (.int (2 : Int32)), .val (.int (0 : Int32)), .unset] [(.int (0 : Int32))]))
  refine Gl.pre (fun _ k => XS.iload X0.here hx rfl (hb hby d10_5) rfl k) ?_
  show Gl p.tables e below PP (s₁.setTop (mkF m 7 #[.val (.ref a1), .val (.int (0 : Int32)), .val (.ref a2), .val (.int (0 : Int32)), .val (.int (2 : Int32)), .val (.int (0 : Int32)), .unset] [(.int (2 : Int32)), (.int (0 : Int32))]))
  refine Gl.pre (fun _ k => XS.icmpNo X0.here hx rfl (hb hby d10_7) rfl (tlt (show (0 : Int32) < (2 : Int32) from (by decide))).2.1 k) ?_
  show Gl p.tables e below PP (s₁.setTop (mkF m 10 #[.val (.ref a1), .val (.int (0 : Int32)), .val (.ref a2), .val (.int (0 : Int32)), .val (.int (2 : Int32)), .val (.int (0 : Int32)), .unset] []))
  refine Gl.pre (fun _ k => XS.aloadN X0.here hx rfl (hb hby d10_10) rfl rfl k) ?_
  show Gl p.tables e below PP (s₁.setTop (mkF m 11 #[.val (.ref a1), .val (.int (0 : Int32)), .val (.ref a2), .val (.int (0 : Int32)), .val (.int (2 : Int32)), .val (.int (0 : Int32)), .unset] [(.ref a1)]))
  refine Gl.pre (fun _ k => XS.iloadN X0.here hx rfl (hb hby d10_11) rfl k) ?_
  show Gl p.tables e below PP (s₁.setTop (mkF m 12 #[.val (.ref a1), .val (.int (0 : Int32)), .val (.ref a2), .val (.int (0 : Int32)), .val (.int (2 : Int32)), .val (.int (0 : Int32)), .unset] [(.int (0 : Int32)), (.ref a1)]))
  refine Gl.pre (fun _ k => own_ldC X0 hx hZ e0 V_a1 (j := (0 : Int32)) (i := 0) (by decide) (by decide) (Nat.lt_of_lt_of_eq (by decide : 0 < 2) rfl) (v := c0) rfl (g := (mkF m 12 #[.val (.ref a1), .val (.int (0 : Int32)), .val (.ref a2), .val (.int (0 : Int32)), .val (.int (2 : Int32)), .val (.int (0 : Int32)), .unset] [(.int (0 : Int32)), (.ref a1)])) rfl rfl (hb hby d10_12) _ k) ?_
  show Gl p.tables e below PP (s₁.setTop (mkF m 13 #[.val (.ref a1), .val (.int (0 : Int32)), .val (.ref a2), .val (.int (0 : Int32)), .val (.int (2 : Int32)), .val (.int (0 : Int32)), .unset] [(.int c0)]))
  refine Gl.pre (fun _ k => XS.istore X0.here hx rfl (hb hby d10_13) rfl (l' := #[.val (.ref a1), .val (.int (0 : Int32)), .val (.ref a2), .val (.int (0 : Int32)), .val (.int (2 : Int32)), .val (.int (0 : Int32)), .val (.int c0)]) rfl k) ?_
  show Gl p.tables e below PP (s₁.setTop (mkF m 15 #[.val (.ref a1), .val (.int (0 : Int32)), .val (.ref a2), .val (.int (0 : Int32)), .val (.int (2 : Int32)), .val (.int (0 : Int32)), .val (.int c0)] []))
  refine Gl.pre (fun _ k => XS.iload X0.here hx rfl (hb hby d10_15) rfl k) ?_
  show Gl p.tables e below PP (s₁.setTop (mkF m 17 #[.val (.ref a1), .val (.int (0 : Int32)), .val (.ref a2), .val (.int (0 : Int32)), .val (.int (2 : Int32)), .val (.int (0 : Int32)), .val (.int c0)] [(.int c0)]))
  refine Gl.pre (fun _ k => XS.sipush X0.here hx rfl (hb hby d10_17) k) ?_
  show Gl p.tables e below PP (s₁.setTop (mkF m 20 #[.val (.ref a1), .val (.int (0 : Int32)), .val (.ref a2), .val (.int (0 : Int32)), .val (.int (2 : Int32)), .val (.int (0 : Int32)), .val (.int c0)] [(.int (255 : Int32)), (.int c0)]))
  refine Gl.pre (fun _ k => XS.icmpYes X0.here hx rfl (pc0 := 20) (pc' := 26) rfl (hb hby d10_20) rfl (flt (show ¬ ((255 : Int32) < c0) from hc0)).2.2.2 (by decide) (by decide) k) ?_
  show Gl p.tables e below PP (s₁.setTop (mkF m 26 #[.val (.ref a1), .val (.int (0 : Int32)), .val (.ref a2), .val (.int (0 : Int32)), .val (.int (2 : Int32)), .val (.int (0 : Int32)), .val (.int c0)] []))
  refine Gl.pre (fun _ k => XS.aloadN X0.here hx rfl (hb hby d10_26) rfl rfl k) ?_
  show Gl p.tables e below PP (s₁.setTop (mkF m 27 #[.val (.ref a1), .val (.int (0 : Int32)), .val (.ref a2), .val (.int (0 : Int32)), .val (.int (2 : Int32)), .val (.int (0 : Int32)), .val (.int c0)] [(.ref a2)]))
  refine Gl.pre (fun _ k => XS.iloadN X0.here hx rfl (hb hby d10_27) rfl k) ?_
  show Gl p.tables e below PP (s₁.setTop (mkF m 28 #[.val (.ref a1), .val (.int (0 : Int32)), .val (.ref a2), .val (.int (0 : Int32)), .val (.int (2 : Int32)), .val (.int (0 : Int32)), .val (.int c0)] [(.int (0 : Int32)), (.ref a2)]))
  refine Gl.pre (fun _ k => XS.iload X0.here hx rfl (hb hby d10_28) rfl k) ?_
  show Gl p.tables e below PP (s₁.setTop (mkF m 30 #[.val (.ref a1), .val (.int (0 : Int32)), .val (.ref a2), .val (.int (0 : Int32)), .val (.int (2 : Int32)), .val (.int (0 : Int32)), .val (.int c0)] [(.int c0), (.int (0 : Int32)), (.ref a2)]))
  refine Gl.pre (fun _ k => XS.i2b X0.here hx rfl (hb hby d10_30) rfl k) ?_
  show Gl p.tables e below PP (s₁.setTop (mkF m 31 #[.val (.ref a1), .val (.int (0 : Int32)), .val (.ref a2), .val (.int (0 : Int32)), .val (.int (2 : Int32)), .val (.int (0 : Int32)), .val (.int c0)] [(.int (c0.toInt8.toInt32)), (.int (0 : Int32)), (.ref a2)]))
  obtain ⟨T1, h1, X1, e1, W1, V1, st1⟩ := own_stB X0 hx hZ e0 V_a2 (j := (0 : Int32)) (i := 0) (by decide) (by decide) (Nat.lt_of_lt_of_eq (by decide : 0 < 2) rfl) (g := (mkF m 31 #[.val (.ref a1), .val (.int (0 : Int32)), .val (.ref a2), .val (.int (0 : Int32)), .val (.int (2 : Int32)), .val (.int (0 : Int32)), .val (.int c0)] [(.int (c0.toInt8.toInt32)), (.int (0 : Int32)), (.ref a2)])) rfl rfl (hb hby d10_31)
  refine Gl.pre (fun _ k => st1 _ k) ?_
  have V_a1 := V_a1.other W1 (own_ne_a1_a2)
  have Z1 : n0 ≤ h1.size := by rw [W1.size]; exact Z0
  have N1 := Fr.snoc X1 N0 g_a2
  have K1 := K0.wr W1 (Or.inl (List.mem_of_getElem? (i := 0) rfl))
  have V_a2 : Bal Z h1 a2 .byte [(nar .byte (c0.toInt8.toInt32)), (0 : Int32)] := V1
  show Gl p.tables e below PP (T1.setTop (mkF m 32 #[.val (.ref a1), .val (.int (0 : Int32)), .val (.ref a2), .val (.int (0 : Int32)), .val (.int (2 : Int32)), .val (.int (0 : Int32)), .val (.int c0)] []))
  refine Gl.pre (fun _ k => XS.iinc X1.here hx rfl (hb hby d10_32) rfl (l' := #[.val (.ref a1), .val (.int (1 : Int32)), .val (.ref a2), .val (.int (0 : Int32)), .val (.int (2 : Int32)), .val (.int (0 : Int32)), .val (.int c0)]) rfl k) ?_
  show Gl p.tables e below PP (T1.setTop (mkF m 35 #[.val (.ref a1), .val (.int (1 : Int32)), .val (.ref a2), .val (.int (0 : Int32)), .val (.int (2 : Int32)), .val (.int (0 : Int32)), .val (.int c0)] []))
  refine Gl.pre (fun _ k => XS.iinc X1.here hx rfl (hb hby d10_35) rfl (l' := #[.val (.ref a1), .val (.int (1 : Int32)), .val (.ref a2), .val (.int (1 : Int32)), .val (.int (2 : Int32)), .val (.int (0 : Int32)), .val (.int c0)]) rfl k) ?_
  show Gl p.tables e below PP (T1.setTop (mkF m 38 #[.val (.ref a1), .val (.int (1 : Int32)), .val (.ref a2), .val (.int (1 : Int32)), .val (.int (2 : Int32)), .val (.int (0 : Int32)), .val (.int c0)] []))
  refine Gl.pre (fun _ k => XS.iinc X1.here hx rfl (hb hby d10_38) rfl (l' := #[.val (.ref a1), .val (.int (1 : Int32)), .val (.ref a2), .val (.int (1 : Int32)), .val (.int (2 : Int32)), .val (.int (1 : Int32)), .val (.int c0)]) rfl k) ?_
  show Gl p.tables e below PP (T1.setTop (mkF m 41 #[.val (.ref a1), .val (.int (1 : Int32)), .val (.ref a2), .val (.int (1 : Int32)), .val (.int (2 : Int32)), .val (.int (1 : Int32)), .val (.int c0)] []))
  refine Gl.pre (fun _ k => XS.goto X1.here hx rfl (pc0 := 41) (pc' := 3) rfl (hb hby d10_41) (by decide) (by decide) k) ?_
  show Gl p.tables e below PP (T1.setTop (mkF m 3 #[.val (.ref a1), .val (.int (1 : Int32)), .val (.ref a2), .val (.int (1 : Int32)), .val (.int (2 : Int32)), .val (.int (1 : Int32)), .val (.int c0)] []))
  refine Gl.pre (fun _ k => XS.iload X1.here hx rfl (hb hby d10_3) rfl k) ?_
  show Gl p.tables e below PP (T1.setTop (mkF m 5 #[.val (.ref a1), .val (.int (1 : Int32)), .val (.ref a2), .val (.int (1 : Int32)), .val (.int (2 : Int32)), .val (.int (1 : Int32)), .val (.int c0)] [(.int (1 : Int32))]))
  refine Gl.pre (fun _ k => XS.iload X1.here hx rfl (hb hby d10_5) rfl k) ?_
  show Gl p.tables e below PP (T1.setTop (mkF m 7 #[.val (.ref a1), .val (.int (1 : Int32)), .val (.ref a2), .val (.int (1 : Int32)), .val (.int (2 : Int32)), .val (.int (1 : Int32)), .val (.int c0)] [(.int (2 : Int32)), (.int (1 : Int32))]))
  refine Gl.pre (fun _ k => XS.icmpNo X1.here hx rfl (hb hby d10_7) rfl (tlt (show (1 : Int32) < (2 : Int32) from (by decide))).2.1 k) ?_
  show Gl p.tables e below PP (T1.setTop (mkF m 10 #[.val (.ref a1), .val (.int (1 : Int32)), .val (.ref a2), .val (.int (1 : Int32)), .val (.int (2 : Int32)), .val (.int (1 : Int32)), .val (.int c0)] []))
  refine Gl.pre (fun _ k => XS.aloadN X1.here hx rfl (hb hby d10_10) rfl rfl k) ?_
  show Gl p.tables e below PP (T1.setTop (mkF m 11 #[.val (.ref a1), .val (.int (1 : Int32)), .val (.ref a2), .val (.int (1 : Int32)), .val (.int (2 : Int32)), .val (.int (1 : Int32)), .val (.int c0)] [(.ref a1)]))
  refine Gl.pre (fun _ k => XS.iloadN X1.here hx rfl (hb hby d10_11) rfl k) ?_
  show Gl p.tables e below PP (T1.setTop (mkF m 12 #[.val (.ref a1), .val (.int (1 : Int32)), .val (.ref a2), .val (.int (1 : Int32)), .val (.int (2 : Int32)), .val (.int (1 : Int32)), .val (.int c0)] [(.int (1 : Int32)), (.ref a1)]))
  refine Gl.pre (fun _ k => own_ldC X1 hx hZ e1 V_a1 (j := (1 : Int32)) (i := 1) (by decide) (by decide) (Nat.lt_of_lt_of_eq (by decide : 1 < 2) rfl) (v := c1) rfl (g := (mkF m 12 #[.val (.ref a1), .val (.int (1 : Int32)), .val (.ref a2), .val (.int (1 : Int32)), .val (.int (2 : Int32)), .val (.int (1 : Int32)), .val (.int c0)] [(.int (1 : Int32)), (.ref a1)])) rfl rfl (hb hby d10_12) _ k) ?_
  show Gl p.tables e below PP (T1.setTop (mkF m 13 #[.val (.ref a1), .val (.int (1 : Int32)), .val (.ref a2), .val (.int (1 : Int32)), .val (.int (2 : Int32)), .val (.int (1 : Int32)), .val (.int c0)] [(.int c1)]))
  refine Gl.pre (fun _ k => XS.istore X1.here hx rfl (hb hby d10_13) rfl (l' := #[.val (.ref a1), .val (.int (1 : Int32)), .val (.ref a2), .val (.int (1 : Int32)), .val (.int (2 : Int32)), .val (.int (1 : Int32)), .val (.int c1)]) rfl k) ?_
  show Gl p.tables e below PP (T1.setTop (mkF m 15 #[.val (.ref a1), .val (.int (1 : Int32)), .val (.ref a2), .val (.int (1 : Int32)), .val (.int (2 : Int32)), .val (.int (1 : Int32)), .val (.int c1)] []))
  refine Gl.pre (fun _ k => XS.iload X1.here hx rfl (hb hby d10_15) rfl k) ?_
  show Gl p.tables e below PP (T1.setTop (mkF m 17 #[.val (.ref a1), .val (.int (1 : Int32)), .val (.ref a2), .val (.int (1 : Int32)), .val (.int (2 : Int32)), .val (.int (1 : Int32)), .val (.int c1)] [(.int c1)]))
  refine Gl.pre (fun _ k => XS.sipush X1.here hx rfl (hb hby d10_17) k) ?_
  show Gl p.tables e below PP (T1.setTop (mkF m 20 #[.val (.ref a1), .val (.int (1 : Int32)), .val (.ref a2), .val (.int (1 : Int32)), .val (.int (2 : Int32)), .val (.int (1 : Int32)), .val (.int c1)] [(.int (255 : Int32)), (.int c1)]))
  refine Gl.pre (fun _ k => XS.icmpYes X1.here hx rfl (pc0 := 20) (pc' := 26) rfl (hb hby d10_20) rfl (flt (show ¬ ((255 : Int32) < c1) from hc1)).2.2.2 (by decide) (by decide) k) ?_
  show Gl p.tables e below PP (T1.setTop (mkF m 26 #[.val (.ref a1), .val (.int (1 : Int32)), .val (.ref a2), .val (.int (1 : Int32)), .val (.int (2 : Int32)), .val (.int (1 : Int32)), .val (.int c1)] []))
  refine Gl.pre (fun _ k => XS.aloadN X1.here hx rfl (hb hby d10_26) rfl rfl k) ?_
  show Gl p.tables e below PP (T1.setTop (mkF m 27 #[.val (.ref a1), .val (.int (1 : Int32)), .val (.ref a2), .val (.int (1 : Int32)), .val (.int (2 : Int32)), .val (.int (1 : Int32)), .val (.int c1)] [(.ref a2)]))
  refine Gl.pre (fun _ k => XS.iloadN X1.here hx rfl (hb hby d10_27) rfl k) ?_
  show Gl p.tables e below PP (T1.setTop (mkF m 28 #[.val (.ref a1), .val (.int (1 : Int32)), .val (.ref a2), .val (.int (1 : Int32)), .val (.int (2 : Int32)), .val (.int (1 : Int32)), .val (.int c1)] [(.int (1 : Int32)), (.ref a2)]))
  refine Gl.pre (fun _ k => XS.iload X1.here hx rfl (hb hby d10_28) rfl k) ?_
  show Gl p.tables e below PP (T1.setTop (mkF m 30 #[.val (.ref a1), .val (.int (1 : Int32)), .val (.ref a2), .val (.int (1 : Int32)), .val (.int (2 : Int32)), .val (.int (1 : Int32)), .val (.int c1)] [(.int c1), (.int (1 : Int32)), (.ref a2)]))
  refine Gl.pre (fun _ k => XS.i2b X1.here hx rfl (hb hby d10_30) rfl k) ?_
  show Gl p.tables e below PP (T1.setTop (mkF m 31 #[.val (.ref a1), .val (.int (1 : Int32)), .val (.ref a2), .val (.int (1 : Int32)), .val (.int (2 : Int32)), .val (.int (1 : Int32)), .val (.int c1)] [(.int (c1.toInt8.toInt32)), (.int (1 : Int32)), (.ref a2)]))
  obtain ⟨T2, h2, X2, e2, W2, V2, st2⟩ := own_stB X1 hx hZ e1 V_a2 (j := (1 : Int32)) (i := 1) (by decide) (by decide) (Nat.lt_of_lt_of_eq (by decide : 1 < 2) rfl) (g := (mkF m 31 #[.val (.ref a1), .val (.int (1 : Int32)), .val (.ref a2), .val (.int (1 : Int32)), .val (.int (2 : Int32)), .val (.int (1 : Int32)), .val (.int c1)] [(.int (c1.toInt8.toInt32)), (.int (1 : Int32)), (.ref a2)])) rfl rfl (hb hby d10_31)
  refine Gl.pre (fun _ k => st2 _ k) ?_
  have V_a1 := V_a1.other W2 (own_ne_a1_a2)
  have Z2 : n0 ≤ h2.size := by rw [W2.size]; exact Z1
  have N2 := Fr.snoc X2 N1 g_a2
  have K2 := K1.wr W2 (Or.inl (List.mem_of_getElem? (i := 0) rfl))
  have V_a2 : Bal Z h2 a2 .byte [(nar .byte (c0.toInt8.toInt32)), (nar .byte (c1.toInt8.toInt32))] := V2
  show Gl p.tables e below PP (T2.setTop (mkF m 32 #[.val (.ref a1), .val (.int (1 : Int32)), .val (.ref a2), .val (.int (1 : Int32)), .val (.int (2 : Int32)), .val (.int (1 : Int32)), .val (.int c1)] []))
  refine Gl.pre (fun _ k => XS.iinc X2.here hx rfl (hb hby d10_32) rfl (l' := #[.val (.ref a1), .val (.int (2 : Int32)), .val (.ref a2), .val (.int (1 : Int32)), .val (.int (2 : Int32)), .val (.int (1 : Int32)), .val (.int c1)]) rfl k) ?_
  show Gl p.tables e below PP (T2.setTop (mkF m 35 #[.val (.ref a1), .val (.int (2 : Int32)), .val (.ref a2), .val (.int (1 : Int32)), .val (.int (2 : Int32)), .val (.int (1 : Int32)), .val (.int c1)] []))
  refine Gl.pre (fun _ k => XS.iinc X2.here hx rfl (hb hby d10_35) rfl (l' := #[.val (.ref a1), .val (.int (2 : Int32)), .val (.ref a2), .val (.int (2 : Int32)), .val (.int (2 : Int32)), .val (.int (1 : Int32)), .val (.int c1)]) rfl k) ?_
  show Gl p.tables e below PP (T2.setTop (mkF m 38 #[.val (.ref a1), .val (.int (2 : Int32)), .val (.ref a2), .val (.int (2 : Int32)), .val (.int (2 : Int32)), .val (.int (1 : Int32)), .val (.int c1)] []))
  refine Gl.pre (fun _ k => XS.iinc X2.here hx rfl (hb hby d10_38) rfl (l' := #[.val (.ref a1), .val (.int (2 : Int32)), .val (.ref a2), .val (.int (2 : Int32)), .val (.int (2 : Int32)), .val (.int (2 : Int32)), .val (.int c1)]) rfl k) ?_
  show Gl p.tables e below PP (T2.setTop (mkF m 41 #[.val (.ref a1), .val (.int (2 : Int32)), .val (.ref a2), .val (.int (2 : Int32)), .val (.int (2 : Int32)), .val (.int (2 : Int32)), .val (.int c1)] []))
  refine Gl.pre (fun _ k => XS.goto X2.here hx rfl (pc0 := 41) (pc' := 3) rfl (hb hby d10_41) (by decide) (by decide) k) ?_
  show Gl p.tables e below PP (T2.setTop (mkF m 3 #[.val (.ref a1), .val (.int (2 : Int32)), .val (.ref a2), .val (.int (2 : Int32)), .val (.int (2 : Int32)), .val (.int (2 : Int32)), .val (.int c1)] []))
  refine Gl.pre (fun _ k => XS.iload X2.here hx rfl (hb hby d10_3) rfl k) ?_
  show Gl p.tables e below PP (T2.setTop (mkF m 5 #[.val (.ref a1), .val (.int (2 : Int32)), .val (.ref a2), .val (.int (2 : Int32)), .val (.int (2 : Int32)), .val (.int (2 : Int32)), .val (.int c1)] [(.int (2 : Int32))]))
  refine Gl.pre (fun _ k => XS.iload X2.here hx rfl (hb hby d10_5) rfl k) ?_
  show Gl p.tables e below PP (T2.setTop (mkF m 7 #[.val (.ref a1), .val (.int (2 : Int32)), .val (.ref a2), .val (.int (2 : Int32)), .val (.int (2 : Int32)), .val (.int (2 : Int32)), .val (.int c1)] [(.int (2 : Int32)), (.int (2 : Int32))]))
  refine Gl.pre (fun _ k => XS.icmpYes X2.here hx rfl (pc0 := 7) (pc' := 44) rfl (hb hby d10_7) rfl (flt (show ¬ ((2 : Int32) < (2 : Int32)) from (by decide))).2.1 (by decide) (by decide) k) ?_
  show Gl p.tables e below PP (T2.setTop (mkF m 44 #[.val (.ref a1), .val (.int (2 : Int32)), .val (.ref a2), .val (.int (2 : Int32)), .val (.int (2 : Int32)), .val (.int (2 : Int32)), .val (.int c1)] []))
  refine Gl.pre (fun _ k => XS.iload X2.here hx rfl (hb hby d10_44) rfl k) ?_
  show Gl p.tables e below PP (T2.setTop (mkF m 46 #[.val (.ref a1), .val (.int (2 : Int32)), .val (.ref a2), .val (.int (2 : Int32)), .val (.int (2 : Int32)), .val (.int (2 : Int32)), .val (.int c1)] [(.int (2 : Int32))]))
  rw [hPP]
  refine own_finI (Q := (Qcz2_2 Z a1 a2 c0 c1 h0 n0)) X2 hx hlk Bd.returns (hb hby d10_46) ?_ (by decide) (by decide)
  show Qcz2_2 Z a1 a2 c0 c1 h0 n0 _ T2.heap _
  rw [e2]
  exact ⟨rfl, N2, K2, _, rfl, V_a2⟩
theorem ef_nl2 (m : MethodId)  : entryFrame m #[(.int (2 : Int32))] 1 = mkF m 0 #[.val (.int (2 : Int32))] [] := by first | (simp [entryFrame, mkF, argsToLocals, Value.category]; done) | rfl
def Qnl2 (Z : State)  (h0 : Heap) (n0 : Nat) (v : Option Value) (h : Heap) (L : List Loc) : Prop := v = some (.int (4 : Int32)) ∧ Fr n0 L ∧ h = h0
set_option maxRecDepth 65536 in
set_option maxHeartbeats 40000000 in
theorem rmnl2 (l : Launch) (Z : State) (a0 : Array Value) (hw : ∀ d ∈ tables_1, d.before a0 Z = true) (ws : List Jvm.Cond)  (h0 : Heap) (n0 : Nat) (Z0 : n0 ≤ h0.size)  :
    MetFree l (⟨"java/lang/StringUTF16", "newBytesLength", "(I)I"⟩ : MethodName) (head1 (Jvm.Cond.code (⟨"java/lang/StringUTF16", "newBytesLength", "(I)I"⟩ : MethodName) jdk_52_method_3_code 1 (some .int) :: ws) ({ frames := 0, cells := 0, slots := 0, locals := 0 } : Room)) (fun a U => a = #[(.int (2 : Int32))] ∧ Z.Warmed39 U.vm ∧ U.heap = h0) (fun _ _ _ _ _ => True) (fun _ U o U' => ∃ v L, o = .returned v ∧ Qnl2 Z  h0 n0 v U'.heap L ∧ FrameEnd U o U' L ({ frames := 0, cells := 0, slots := 0, locals := 0 } : Room).cells ({ frames := 0, cells := 0, slots := 0, locals := 0 } : Room).slots) := by
  refine MetFree.of_bodySF (plainFor_of_name pn_14) hisR ?_
  intro p e s m args below meth c s₁ Bd hml0 hP hK
  obtain ⟨rfl, hZ, hh⟩ := hP
  have hx := Bd.exec
  have hby := Bd.bytes
  have hlk : meth.locks = false := BodyLoose.notSynchronized Bd
  have hml : c.maxLocals = 1 := hml0
  have hown : s.vm.findClass "java/lang/StringUTF16" = some m.cls := findClass_of_methodNamed Bd.named
  have hnm := (name_of_methodNamed Bd.named Bd.method).1
  have X0 : Stand p l e ({ frames := 0, cells := 0, slots := 0, locals := 0 } : Room) s m #[(.int (2 : Int32))] below meth c s₁ [] 0 0 := Stand.of_body Bd
  have e0 : s₁.heap = h0 := by rw [← hh, Bd.state]; rfl
  have N0 := Fr.nil n0
  show Gl p.tables e below (fun (o : Outcome) (U' : State) => ∃ v L, o = .returned v ∧ Qnl2 Z  h0 n0 v U'.heap L ∧ FrameEnd s o U' L ({ frames := 0, cells := 0, slots := 0, locals := 0 } : Room).cells ({ frames := 0, cells := 0, slots := 0, locals := 0 } : Room).slots) _
  refine Gl.pre (fun t k => castTop (ef_nl2 m ) k) ?_
  obtain ⟨PP, hPP⟩ : ∃ P : Outcome → State → Prop, P = (fun (o : Outcome) (U' : State) => ∃ v L, o = .returned v ∧ Qnl2 Z  h0 n0 v U'.heap L ∧ FrameEnd s o U' L ({ frames := 0, cells := 0, slots := 0, locals := 0 } : Room).cells ({ frames := 0, cells := 0, slots := 0, locals := 0 } : Room).slots) := ⟨_, rfl⟩
  rw [← hPP]
  show Gl p.tables e below PP (s₁.setTop (mkF m 0 #[.val (.int (2 : Int32))] []))
  refine Gl.pre (fun _ k => XS.iloadN X0.here hx rfl (hb hby d14_0) rfl k) ?_
  show Gl p.tables e below PP (s₁.setTop (mkF m 1 #[.val (.int (2 : Int32))] [(.int (2 : Int32))]))
  refine Gl.pre (fun _ k => XS.ifYes X0.here hx rfl (pc0 := 1) (pc' := 12) rfl (hb hby d14_1) rfl ((if0 _ _).trans (flt (show ¬ ((2 : Int32) < (0 : Int32)) from (by decide))).2.1) (by decide) (by decide) k) ?_
  show Gl p.tables e below PP (s₁.setTop (mkF m 12 #[.val (.int (2 : Int32))] []))
  refine Gl.pre (fun _ k => XS.iloadN X0.here hx rfl (hb hby d14_12) rfl k) ?_
  show Gl p.tables e below PP (s₁.setTop (mkF m 13 #[.val (.int (2 : Int32))] [(.int (2 : Int32))]))
  refine Gl.pre (fun _ k => X0.ldcInt hx hown (mvT hZ (hw _ (List.mem_of_getElem? (i := 74) rfl))) (g := (mkF m 13 #[.val (.int (2 : Int32))] [(.int (2 : Int32))])) rfl (hb hby d14_13) _ k) ?_
  show Gl p.tables e below PP (s₁.setTop (mkF m 15 #[.val (.int (2 : Int32))] [(.int (1073741823 : Int32)), (.int (2 : Int32))]))
  refine Gl.pre (fun _ k => XS.icmpYes X0.here hx rfl (pc0 := 15) (pc' := 55) rfl (hb hby d14_15) rfl (tlt (show (2 : Int32) < (1073741823 : Int32) from (by decide))).1 (by decide) (by decide) k) ?_
  show Gl p.tables e below PP (s₁.setTop (mkF m 55 #[.val (.int (2 : Int32))] []))
  refine Gl.pre (fun _ k => XS.iloadN X0.here hx rfl (hb hby d14_55) rfl k) ?_
  show Gl p.tables e below PP (s₁.setTop (mkF m 56 #[.val (.int (2 : Int32))] [(.int (2 : Int32))]))
  refine Gl.pre (fun _ k => XS.iconst X0.here hx rfl (hb hby d14_56) k) ?_
  show Gl p.tables e below PP (s₁.setTop (mkF m 57 #[.val (.int (2 : Int32))] [(.int (1 : Int32)), (.int (2 : Int32))]))
  refine Gl.pre (fun _ k => XS.ishl X0.here hx rfl (hb hby d14_57) rfl k) ?_
  show Gl p.tables e below PP (s₁.setTop (mkF m 58 #[.val (.int (2 : Int32))] [(.int ((2 : Int32) <<< ((1 : Int32) &&& 31)))]))
  rw [show ((2 : Int32) <<< ((1 : Int32) &&& 31)) = (4 : Int32) by decide]
  show Gl p.tables e below PP (s₁.setTop (mkF m 58 #[.val (.int (2 : Int32))] [(.int (4 : Int32))]))
  rw [hPP]
  refine own_finI (Q := (Qnl2 Z  h0 n0)) X0 hx hlk Bd.returns (hb hby d14_58) ?_ (by decide) (by decide)
  show Qnl2 Z  h0 n0 _ s₁.heap _
  rw [e0]
  exact ⟨rfl, N0, rfl⟩
theorem ef_nf2 (m : MethodId)  : entryFrame m #[(.int (2 : Int32))] 1 = mkF m 0 #[.val (.int (2 : Int32))] [] := by first | (simp [entryFrame, mkF, argsToLocals, Value.category]; done) | rfl
def Qnf2 (Z : State)  (h0 : Heap) (n0 : Nat) (v : Option Value) (h : Heap) (L : List Loc) : Prop := ∃ b : Addr, v = some (.ref b) ∧ Fr n0 L ∧ h0.size ≤ b ∧ Keep h0 h [] ∧ Bal Z h b .byte [(0 : Int32), (0 : Int32), (0 : Int32), (0 : Int32)]
set_option maxRecDepth 65536 in
set_option maxHeartbeats 40000000 in
theorem rmnf2 (l : Launch) (Z : State) (a0 : Array Value) (hw : ∀ d ∈ tables_1, d.before a0 Z = true) (ws : List Jvm.Cond)  (h0 : Heap) (n0 : Nat) (Z0 : n0 ≤ h0.size)  :
    MetFree l (⟨"java/lang/StringUTF16", "newBytesFor", "(I)[B"⟩ : MethodName) (head1 (Jvm.Cond.code (⟨"java/lang/StringUTF16", "newBytesFor", "(I)[B"⟩ : MethodName) jdk_52_method_2_code 1 (some (.array .byte)) :: ws) ({ frames := 1, cells := 1, slots := 4, locals := 12 } : Room)) (fun a U => a = #[(.int (2 : Int32))] ∧ Z.Warmed39 U.vm ∧ U.heap = h0) (fun _ _ _ _ _ => True) (fun _ U o U' => ∃ v L, o = .returned v ∧ Qnf2 Z  h0 n0 v U'.heap L ∧ FrameEnd U o U' L ({ frames := 1, cells := 1, slots := 4, locals := 12 } : Room).cells ({ frames := 1, cells := 1, slots := 4, locals := 12 } : Room).slots) := by
  refine MetFree.of_bodySF (plainFor_of_name pn_13) hisR ?_
  intro p e s m args below meth c s₁ Bd hml0 hP hK
  obtain ⟨rfl, hZ, hh⟩ := hP
  have hx := Bd.exec
  have hby := Bd.bytes
  have hlk : meth.locks = false := BodyLoose.notSynchronized Bd
  have hml : c.maxLocals = 1 := hml0
  have hown : s.vm.findClass "java/lang/StringUTF16" = some m.cls := findClass_of_methodNamed Bd.named
  have hnm := (name_of_methodNamed Bd.named Bd.method).1
  have X0 : Stand p l e ({ frames := 1, cells := 1, slots := 4, locals := 12 } : Room) s m #[(.int (2 : Int32))] below meth c s₁ [] 0 0 := Stand.of_body Bd
  have e0 : s₁.heap = h0 := by rw [← hh, Bd.state]; rfl
  have N0 := Fr.nil n0
  show Gl p.tables e below (fun (o : Outcome) (U' : State) => ∃ v L, o = .returned v ∧ Qnf2 Z  h0 n0 v U'.heap L ∧ FrameEnd s o U' L ({ frames := 1, cells := 1, slots := 4, locals := 12 } : Room).cells ({ frames := 1, cells := 1, slots := 4, locals := 12 } : Room).slots) _
  refine Gl.pre (fun t k => castTop (ef_nf2 m ) k) ?_
  obtain ⟨PP, hPP⟩ : ∃ P : Outcome → State → Prop, P = (fun (o : Outcome) (U' : State) => ∃ v L, o = .returned v ∧ Qnf2 Z  h0 n0 v U'.heap L ∧ FrameEnd s o U' L ({ frames := 1, cells := 1, slots := 4, locals := 12 } : Room).cells ({ frames := 1, cells := 1, slots := 4, locals := 12 } : Room).slots) := ⟨_, rfl⟩
  rw [← hPP]
  have K0 : Keep h0 h0 [] := Keep.refl h0 _
  show Gl p.tables e below PP (s₁.setTop (mkF m 0 #[.val (.int (2 : Int32))] []))
  refine Gl.pre (fun _ k => XS.iloadN X0.here hx rfl (hb hby d13_0) rfl k) ?_
  show Gl p.tables e below PP (s₁.setTop (mkF m 1 #[.val (.int (2 : Int32))] [(.int (2 : Int32))]))
  obtain ⟨_, _, ⟨T1, L1, k1, n1⟩, -, X1, ⟨Lc1, hQ1, l1, y1, z1⟩, st1⟩ := Jvm.LawKit.callS X0 hx (y := (⟨"java/lang/StringUTF16", "newBytesLength", "(I)I"⟩ : MethodName)) hown (mvT hZ (hw _ (List.mem_of_getElem? (i := 71) rfl))) (mvT hZ (hw _ (List.mem_of_getElem? (i := 72) rfl))) (mvT hZ (hw _ (List.mem_of_getElem? (i := 57) rfl))) (mvT hZ (hw _ (List.mem_of_getElem? (i := 73) rfl))) (by decide) (backOf (W := 0) (rmnl2 l Z a0 hw []  h0 n0 Z0 ) hZ (hw _ (List.mem_of_getElem? (i := 73) rfl)) (hw _ (List.mem_of_getElem? (i := 57) rfl)) (by decide) (by decide)) (g := (mkF m 1 #[.val (.int (2 : Int32))] [(.int (2 : Int32))])) rfl (by rw [hml]; rfl) (argsL := [(.int (2 : Int32))]) (rest := []) (lenOf pd_0 rfl) rfl (by show 2 * 0 + _ ≤ _; exact Nat.le_of_eq rfl) (hb hby d13_1) (fun _ _ => ⟨rfl, e0, (by decide : 0 + 0 ≤ _), (by decide : 0 + 0 ≤ _)⟩)
  dsimp only [Pt.U, Pt.locs, Pt.cells, Pt.slots] at X1 l1 y1 z1 st1 hQ1
  subst l1 y1 z1
  obtain ⟨rfl, N1q, e1⟩ := hQ1
  have N1 := Fr.app N0 N1q
  refine Gl.pre (fun _ k => st1 _ k) ?_
  show Gl p.tables e below PP (T1.setTop (mkF m 4 #[.val (.int (2 : Int32))] [(.int (4 : Int32))]))
  obtain ⟨T2, h2, k2, X2, e2, E2, A2, st2⟩ := newP X1 hx hZ (hw _ (List.mem_of_getElem? (i := 19) rfl)) e1 (g := (mkF m 4 #[.val (.int (2 : Int32))] [(.int (4 : Int32))])) rfl (hb hby d13_4) rfl (by decide) (cap := 4) (by decide) (by decide) (by decide) (by decide)
  obtain ⟨b2, g2⟩ : ∃ z, z = h0.size := ⟨_, rfl⟩
  rw [← g2] at A2 st2
  refine Gl.pre (fun _ k => st2 _ k) ?_
  have g_b2 : n0 ≤ b2 := Nat.le_trans Z0 (Nat.le_of_eq g2.symm)
  have sz_b2 : h0.size ≤ b2 := Nat.le_trans K0.1 (Nat.le_of_eq g2.symm)
  have Z2 : n0 ≤ h2.size := Nat.le_trans Z0 E2.1
  have K2 := K0.ext E2
  have V_b2 : Bal Z h2 b2 .byte [(0 : Int32), (0 : Int32), (0 : Int32), (0 : Int32)] := Bal.new (ty := .byte) A2 (n := 4) (by decide) rfl
  show Gl p.tables e below PP (T2.setTop (mkF m 6 #[.val (.int (2 : Int32))] [(.ref b2)]))
  rw [hPP]
  refine own_finA (Q := (Qnf2 Z  h0 n0)) X2 hx hlk Bd.returns rfl rfl (hb hby d13_6) ?_ (by decide) (by decide)
  show Qnf2 Z  h0 n0 _ T2.heap _
  rw [e2]
  exact ⟨b2, rfl, N1, sz_b2, K2, V_b2⟩
theorem ef_pu1 (m : MethodId) (a1 : Addr) (pv : Int32) (xs : List Int32) : entryFrame m #[(.ref a1), (.int (1 : Int32)), (.int pv)] 3 = mkF m 0 #[.val (.ref a1), .val (.int (1 : Int32)), .val (.int pv)] [] := by first | (simp [entryFrame, mkF, argsToLocals, Value.category]; done) | rfl
def Qpu1 (Z : State) (a1 : Addr) (pv : Int32) (xs : List Int32) (h0 : Heap) (n0 : Nat) (v : Option Value) (h : Heap) (L : List Loc) : Prop := v = none ∧ Fr n0 L ∧ Keep h0 h [a1] ∧ Bal Z h a1 .byte ((xs.set 2 (nar .byte ((pv >>> ((0 : Int32) &&& 31)).toInt8.toInt32))).set 3 (nar .byte ((pv >>> ((8 : Int32) &&& 31)).toInt8.toInt32)))
set_option maxRecDepth 65536 in
set_option maxHeartbeats 40000000 in
theorem rmpu1 (l : Launch) (Z : State) (a0 : Array Value) (hw : ∀ d ∈ tables_1, d.before a0 Z = true) (ws : List Jvm.Cond) (a1 : Addr) (pv : Int32) (xs : List Int32) (h0 : Heap) (n0 : Nat) (Z0 : n0 ≤ h0.size) (V_a1 : Bal Z h0 a1 .byte xs) (g_a1 : n0 ≤ a1) (hlt : 3 < xs.length) (SAD : Sta Z Z.heap "java/lang/StringUTF16" "$assertionsDisabled" "Z" (.int (1 : Int32))) (SHI : Sta Z Z.heap "java/lang/StringUTF16" "HI_BYTE_SHIFT" "I" (.int (0 : Int32))) (SLO : Sta Z Z.heap "java/lang/StringUTF16" "LO_BYTE_SHIFT" "I" (.int (8 : Int32))) (O_ : Old Z n0 h0) :
    MetFree l (⟨"java/lang/StringUTF16", "putChar", "([BII)V"⟩ : MethodName) (head1 (Jvm.Cond.code (⟨"java/lang/StringUTF16", "putChar", "([BII)V"⟩ : MethodName) jdk_52_method_4_code 3 none :: ws) ({ frames := 0, cells := 0, slots := 0, locals := 0 } : Room)) (fun a U => a = #[(.ref a1), (.int (1 : Int32)), (.int pv)] ∧ Z.Warmed39 U.vm ∧ U.heap = h0) (fun _ _ _ _ _ => True) (fun _ U o U' => ∃ v L, o = .returned v ∧ Qpu1 Z a1 pv xs h0 n0 v U'.heap L ∧ FrameEnd U o U' L ({ frames := 0, cells := 0, slots := 0, locals := 0 } : Room).cells ({ frames := 0, cells := 0, slots := 0, locals := 0 } : Room).slots) := by
  refine MetFree.of_bodySF (plainFor_of_name pn_15) hisR ?_
  intro p e s m args below meth c s₁ Bd hml0 hP hK
  obtain ⟨rfl, hZ, hh⟩ := hP
  have hx := Bd.exec
  have hby := Bd.bytes
  have hlk : meth.locks = false := BodyLoose.notSynchronized Bd
  have hml : c.maxLocals = 3 := hml0
  have hown : s.vm.findClass "java/lang/StringUTF16" = some m.cls := findClass_of_methodNamed Bd.named
  have hnm := (name_of_methodNamed Bd.named Bd.method).1
  have X0 : Stand p l e ({ frames := 0, cells := 0, slots := 0, locals := 0 } : Room) s m #[(.ref a1), (.int (1 : Int32)), (.int pv)] below meth c s₁ [] 0 0 := Stand.of_body Bd
  have e0 : s₁.heap = h0 := by rw [← hh, Bd.state]; rfl
  have N0 := Fr.nil n0
  show Gl p.tables e below (fun (o : Outcome) (U' : State) => ∃ v L, o = .returned v ∧ Qpu1 Z a1 pv xs h0 n0 v U'.heap L ∧ FrameEnd s o U' L ({ frames := 0, cells := 0, slots := 0, locals := 0 } : Room).cells ({ frames := 0, cells := 0, slots := 0, locals := 0 } : Room).slots) _
  refine Gl.pre (fun t k => castTop (ef_pu1 m a1 pv xs) k) ?_
  obtain ⟨PP, hPP⟩ : ∃ P : Outcome → State → Prop, P = (fun (o : Outcome) (U' : State) => ∃ v L, o = .returned v ∧ Qpu1 Z a1 pv xs h0 n0 v U'.heap L ∧ FrameEnd s o U' L ({ frames := 0, cells := 0, slots := 0, locals := 0 } : Room).cells ({ frames := 0, cells := 0, slots := 0, locals := 0 } : Room).slots) := ⟨_, rfl⟩
  rw [← hPP]
  have K0 : Keep h0 h0 [a1] := Keep.refl h0 _
  show Gl p.tables e below PP (s₁.setTop (mkF m 0 #[.val (.ref a1), .val (.int (1 : Int32)), .val (.int pv)] []))
  obtain ⟨T1, X1, e1, st1⟩ := getS2 X0 hx hZ hown (host := "") (Or.inl (hw _ (List.mem_of_getElem? (i := 78) rfl))) Via.refl e0 (SAD.ext O_.2) (g := (mkF m 0 #[.val (.ref a1), .val (.int (1 : Int32)), .val (.int pv)] [])) rfl (hb hby d15_0)
  refine Gl.pre (fun _ k => st1 _ k) ?_
  show Gl p.tables e below PP (T1.setTop (mkF m 3 #[.val (.ref a1), .val (.int (1 : Int32)), .val (.int pv)] [(.int (1 : Int32))]))
  refine Gl.pre (fun _ k => XS.ifYes X1.here hx rfl (pc0 := 3) (pc' := 28) rfl (hb hby d15_3) rfl ((if0 _ _).trans (feq (show ¬ ((1 : Int32) = (0 : Int32)) from (by decide))).2) (by decide) (by decide) k) ?_
  show Gl p.tables e below PP (T1.setTop (mkF m 28 #[.val (.ref a1), .val (.int (1 : Int32)), .val (.int pv)] []))
  refine Gl.pre (fun _ k => XS.iloadN X1.here hx rfl (hb hby d15_28) rfl k) ?_
  show Gl p.tables e below PP (T1.setTop (mkF m 29 #[.val (.ref a1), .val (.int (1 : Int32)), .val (.int pv)] [(.int (1 : Int32))]))
  refine Gl.pre (fun _ k => XS.iconst X1.here hx rfl (hb hby d15_29) k) ?_
  show Gl p.tables e below PP (T1.setTop (mkF m 30 #[.val (.ref a1), .val (.int (1 : Int32)), .val (.int pv)] [(.int (1 : Int32)), (.int (1 : Int32))]))
  refine Gl.pre (fun _ k => XS.ishl X1.here hx rfl (hb hby d15_30) rfl k) ?_
  show Gl p.tables e below PP (T1.setTop (mkF m 31 #[.val (.ref a1), .val (.int (1 : Int32)), .val (.int pv)] [(.int ((1 : Int32) <<< ((1 : Int32) &&& 31)))]))
  rw [show ((1 : Int32) <<< ((1 : Int32) &&& 31)) = (2 : Int32) by decide]
  show Gl p.tables e below PP (T1.setTop (mkF m 31 #[.val (.ref a1), .val (.int (1 : Int32)), .val (.int pv)] [(.int (2 : Int32))]))
  refine Gl.pre (fun _ k => XS.istoreN X1.here hx rfl (hb hby d15_31) rfl (l' := #[.val (.ref a1), .val (.int (2 : Int32)), .val (.int pv)]) rfl k) ?_
  show Gl p.tables e below PP (T1.setTop (mkF m 32 #[.val (.ref a1), .val (.int (2 : Int32)), .val (.int pv)] []))
  refine Gl.pre (fun _ k => XS.aloadN X1.here hx rfl (hb hby d15_32) rfl rfl k) ?_
  show Gl p.tables e below PP (T1.setTop (mkF m 33 #[.val (.ref a1), .val (.int (2 : Int32)), .val (.int pv)] [(.ref a1)]))
  refine Gl.pre (fun _ k => XS.iloadN X1.here hx rfl (hb hby d15_33) rfl k) ?_
  show Gl p.tables e below PP (T1.setTop (mkF m 34 #[.val (.ref a1), .val (.int (2 : Int32)), .val (.int pv)] [(.int (2 : Int32)), (.ref a1)]))
  refine Gl.pre (fun _ k => XS.iinc X1.here hx rfl (hb hby d15_34) rfl (l' := #[.val (.ref a1), .val (.int (3 : Int32)), .val (.int pv)]) rfl k) ?_
  show Gl p.tables e below PP (T1.setTop (mkF m 37 #[.val (.ref a1), .val (.int (3 : Int32)), .val (.int pv)] [(.int (2 : Int32)), (.ref a1)]))
  refine Gl.pre (fun _ k => XS.iloadN X1.here hx rfl (hb hby d15_37) rfl k) ?_
  show Gl p.tables e below PP (T1.setTop (mkF m 38 #[.val (.ref a1), .val (.int (3 : Int32)), .val (.int pv)] [(.int pv), (.int (2 : Int32)), (.ref a1)]))
  obtain ⟨T2, X2, e2, st2⟩ := getS2 X1 hx hZ hown (host := "") (Or.inl (hw _ (List.mem_of_getElem? (i := 79) rfl))) Via.refl e1 (SHI.ext O_.2) (g := (mkF m 38 #[.val (.ref a1), .val (.int (3 : Int32)), .val (.int pv)] [(.int pv), (.int (2 : Int32)), (.ref a1)])) rfl (hb hby d15_38)
  refine Gl.pre (fun _ k => st2 _ k) ?_
  show Gl p.tables e below PP (T2.setTop (mkF m 41 #[.val (.ref a1), .val (.int (3 : Int32)), .val (.int pv)] [(.int (0 : Int32)), (.int pv), (.int (2 : Int32)), (.ref a1)]))
  refine Gl.pre (fun _ k => XS.ishr X2.here hx rfl (hb hby d15_41) rfl k) ?_
  show Gl p.tables e below PP (T2.setTop (mkF m 42 #[.val (.ref a1), .val (.int (3 : Int32)), .val (.int pv)] [(.int (pv >>> ((0 : Int32) &&& 31))), (.int (2 : Int32)), (.ref a1)]))
  refine Gl.pre (fun _ k => XS.i2b X2.here hx rfl (hb hby d15_42) rfl k) ?_
  show Gl p.tables e below PP (T2.setTop (mkF m 43 #[.val (.ref a1), .val (.int (3 : Int32)), .val (.int pv)] [(.int ((pv >>> ((0 : Int32) &&& 31)).toInt8.toInt32)), (.int (2 : Int32)), (.ref a1)]))
  obtain ⟨T3, h3, X3, e3, W3, V3, st3⟩ := own_stB X2 hx hZ e2 V_a1 (j := (2 : Int32)) (i := 2) (by decide) (by decide) (Nat.lt_of_succ_lt hlt) (g := (mkF m 43 #[.val (.ref a1), .val (.int (3 : Int32)), .val (.int pv)] [(.int ((pv >>> ((0 : Int32) &&& 31)).toInt8.toInt32)), (.int (2 : Int32)), (.ref a1)])) rfl rfl (hb hby d15_43)
  refine Gl.pre (fun _ k => st3 _ k) ?_
  have O_ := O_.wr W3 g_a1
  have Z3 : n0 ≤ h3.size := by rw [W3.size]; exact Z0
  have N3 := Fr.snoc X3 N0 g_a1
  have K3 := K0.wr W3 (Or.inl (List.mem_of_getElem? (i := 0) rfl))
  have V_a1 := V3
  show Gl p.tables e below PP (T3.setTop (mkF m 44 #[.val (.ref a1), .val (.int (3 : Int32)), .val (.int pv)] []))
  refine Gl.pre (fun _ k => XS.aloadN X3.here hx rfl (hb hby d15_44) rfl rfl k) ?_
  show Gl p.tables e below PP (T3.setTop (mkF m 45 #[.val (.ref a1), .val (.int (3 : Int32)), .val (.int pv)] [(.ref a1)]))
  refine Gl.pre (fun _ k => XS.iloadN X3.here hx rfl (hb hby d15_45) rfl k) ?_
  show Gl p.tables e below PP (T3.setTop (mkF m 46 #[.val (.ref a1), .val (.int (3 : Int32)), .val (.int pv)] [(.int (3 : Int32)), (.ref a1)]))
  refine Gl.pre (fun _ k => XS.iloadN X3.here hx rfl (hb hby d15_46) rfl k) ?_
  show Gl p.tables e below PP (T3.setTop (mkF m 47 #[.val (.ref a1), .val (.int (3 : Int32)), .val (.int pv)] [(.int pv), (.int (3 : Int32)), (.ref a1)]))
  obtain ⟨T4, X4, e4, st4⟩ := getS2 X3 hx hZ hown (host := "") (Or.inl (hw _ (List.mem_of_getElem? (i := 80) rfl))) Via.refl e3 (SLO.ext O_.2) (g := (mkF m 47 #[.val (.ref a1), .val (.int (3 : Int32)), .val (.int pv)] [(.int pv), (.int (3 : Int32)), (.ref a1)])) rfl (hb hby d15_47)
  refine Gl.pre (fun _ k => st4 _ k) ?_
  show Gl p.tables e below PP (T4.setTop (mkF m 50 #[.val (.ref a1), .val (.int (3 : Int32)), .val (.int pv)] [(.int (8 : Int32)), (.int pv), (.int (3 : Int32)), (.ref a1)]))
  refine Gl.pre (fun _ k => XS.ishr X4.here hx rfl (hb hby d15_50) rfl k) ?_
  show Gl p.tables e below PP (T4.setTop (mkF m 51 #[.val (.ref a1), .val (.int (3 : Int32)), .val (.int pv)] [(.int (pv >>> ((8 : Int32) &&& 31))), (.int (3 : Int32)), (.ref a1)]))
  refine Gl.pre (fun _ k => XS.i2b X4.here hx rfl (hb hby d15_51) rfl k) ?_
  show Gl p.tables e below PP (T4.setTop (mkF m 52 #[.val (.ref a1), .val (.int (3 : Int32)), .val (.int pv)] [(.int ((pv >>> ((8 : Int32) &&& 31)).toInt8.toInt32)), (.int (3 : Int32)), (.ref a1)]))
  obtain ⟨T5, h5, X5, e5, W5, V5, st5⟩ := own_stB X4 hx hZ e4 V_a1 (j := (3 : Int32)) (i := 3) (by decide) (by decide) (by rw [List.length_set]; exact hlt) (g := (mkF m 52 #[.val (.ref a1), .val (.int (3 : Int32)), .val (.int pv)] [(.int ((pv >>> ((8 : Int32) &&& 31)).toInt8.toInt32)), (.int (3 : Int32)), (.ref a1)])) rfl rfl (hb hby d15_52)
  refine Gl.pre (fun _ k => st5 _ k) ?_
  have O_ := O_.wr W5 g_a1
  have Z5 : n0 ≤ h5.size := by rw [W5.size]; exact Z3
  have N5 := Fr.snoc X5 N3 g_a1
  have K5 := K3.wr W5 (Or.inl (List.mem_of_getElem? (i := 0) rfl))
  have V_a1 := V5
  show Gl p.tables e below PP (T5.setTop (mkF m 53 #[.val (.ref a1), .val (.int (3 : Int32)), .val (.int pv)] []))
  rw [hPP]
  refine own_finV (Q := (Qpu1 Z a1 pv xs h0 n0)) X5 hx hlk Bd.returns (hb hby d15_53) ?_ (by decide) (by decide)
  show Qpu1 Z a1 pv xs h0 n0 _ T5.heap _
  rw [e5]
  exact ⟨rfl, N5, K5, V_a1⟩
theorem ef_tb2 (m : MethodId) (a1 : Addr) (c0 : Int32) (c1 : Int32) : entryFrame m #[(.ref a1), (.int (0 : Int32)), (.int (2 : Int32))] 5 = mkF m 0 #[.val (.ref a1), .val (.int (0 : Int32)), .val (.int (2 : Int32)), .unset, .unset] [] := by first | (simp [entryFrame, mkF, argsToLocals, Value.category]; done) | rfl
def Qtb2 (Z : State) (a1 : Addr) (c0 : Int32) (c1 : Int32) (h0 : Heap) (n0 : Nat) (v : Option Value) (h : Heap) (L : List Loc) : Prop := ∃ b : Addr, v = some (.ref b) ∧ Fr n0 L ∧ h0.size ≤ b ∧ Keep h0 h [] ∧ Bal Z h b .byte [(nar .byte ((c0 >>> ((0 : Int32) &&& 31)).toInt8.toInt32)), (nar .byte ((c0 >>> ((8 : Int32) &&& 31)).toInt8.toInt32)), (nar .byte ((c1 >>> ((0 : Int32) &&& 31)).toInt8.toInt32)), (nar .byte ((c1 >>> ((8 : Int32) &&& 31)).toInt8.toInt32))]
set_option maxRecDepth 65536 in
set_option maxHeartbeats 40000000 in
theorem rmtb2 (l : Launch) (Z : State) (a0 : Array Value) (hw : ∀ d ∈ tables_1, d.before a0 Z = true) (ws : List Jvm.Cond) (a1 : Addr) (c0 : Int32) (c1 : Int32) (h0 : Heap) (n0 : Nat) (Z0 : n0 ≤ h0.size) (V_a1 : Bal Z h0 a1 .char [c0, c1]) (SAD : Sta Z Z.heap "java/lang/StringUTF16" "$assertionsDisabled" "Z" (.int (1 : Int32))) (SHI : Sta Z Z.heap "java/lang/StringUTF16" "HI_BYTE_SHIFT" "I" (.int (0 : Int32))) (SLO : Sta Z Z.heap "java/lang/StringUTF16" "LO_BYTE_SHIFT" "I" (.int (8 : Int32))) (O_ : Old Z n0 h0) :
    MetFree l (⟨"java/lang/StringUTF16", "toBytes", "([CII)[B"⟩ : MethodName) (head1 (Jvm.Cond.code (⟨"java/lang/StringUTF16", "toBytes", "([CII)[B"⟩ : MethodName) jdk_52_method_14_code 5 (some (.array .byte)) :: ws) ({ frames := 2, cells := 1, slots := 4, locals := 24 } : Room)) (fun a U => a = #[(.ref a1), (.int (0 : Int32)), (.int (2 : Int32))] ∧ Z.Warmed39 U.vm ∧ U.heap = h0) (fun _ _ _ _ _ => True) (fun _ U o U' => ∃ v L, o = .returned v ∧ Qtb2 Z a1 c0 c1 h0 n0 v U'.heap L ∧ FrameEnd U o U' L ({ frames := 2, cells := 1, slots := 4, locals := 24 } : Room).cells ({ frames := 2, cells := 1, slots := 4, locals := 24 } : Room).slots) := by
  refine MetFree.of_bodySF (plainFor_of_name pn_12) hisR ?_
  intro p e s m args below meth c s₁ Bd hml0 hP hK
  obtain ⟨rfl, hZ, hh⟩ := hP
  have hx := Bd.exec
  have hby := Bd.bytes
  have hlk : meth.locks = false := BodyLoose.notSynchronized Bd
  have hml : c.maxLocals = 5 := hml0
  have hown : s.vm.findClass "java/lang/StringUTF16" = some m.cls := findClass_of_methodNamed Bd.named
  have hnm := (name_of_methodNamed Bd.named Bd.method).1
  have X0 : Stand p l e ({ frames := 2, cells := 1, slots := 4, locals := 24 } : Room) s m #[(.ref a1), (.int (0 : Int32)), (.int (2 : Int32))] below meth c s₁ [] 0 0 := Stand.of_body Bd
  have e0 : s₁.heap = h0 := by rw [← hh, Bd.state]; rfl
  have N0 := Fr.nil n0
  show Gl p.tables e below (fun (o : Outcome) (U' : State) => ∃ v L, o = .returned v ∧ Qtb2 Z a1 c0 c1 h0 n0 v U'.heap L ∧ FrameEnd s o U' L ({ frames := 2, cells := 1, slots := 4, locals := 24 } : Room).cells ({ frames := 2, cells := 1, slots := 4, locals := 24 } : Room).slots) _
  refine Gl.pre (fun t k => castTop (ef_tb2 m a1 c0 c1) k) ?_
  obtain ⟨PP, hPP⟩ : ∃ P : Outcome → State → Prop, P = (fun (o : Outcome) (U' : State) => ∃ v L, o = .returned v ∧ Qtb2 Z a1 c0 c1 h0 n0 v U'.heap L ∧ FrameEnd s o U' L ({ frames := 2, cells := 1, slots := 4, locals := 24 } : Room).cells ({ frames := 2, cells := 1, slots := 4, locals := 24 } : Room).slots) := ⟨_, rfl⟩
  rw [← hPP]
  have K0 : Keep h0 h0 [] := Keep.refl h0 _
  show Gl p.tables e below PP (s₁.setTop (mkF m 0 #[.val (.ref a1), .val (.int (0 : Int32)), .val (.int (2 : Int32)), .unset, .unset] []))
  refine Gl.pre (fun _ k => XS.iloadN X0.here hx rfl (hb hby d12_0) rfl k) ?_
  show Gl p.tables e below PP (s₁.setTop (mkF m 1 #[.val (.ref a1), .val (.int (0 : Int32)), .val (.int (2 : Int32)), .unset, .unset] [(.int (2 : Int32))]))
  obtain ⟨_, _, ⟨T1, L1, k1, n1⟩, -, X1, ⟨Lc1, hQ1, l1, y1, z1⟩, st1⟩ := Jvm.LawKit.callS X0 hx (y := (⟨"java/lang/StringUTF16", "newBytesFor", "(I)[B"⟩ : MethodName)) hown (mvT hZ (hw _ (List.mem_of_getElem? (i := 68) rfl))) (mvT hZ (hw _ (List.mem_of_getElem? (i := 69) rfl))) (mvT hZ (hw _ (List.mem_of_getElem? (i := 57) rfl))) (mvT hZ (hw _ (List.mem_of_getElem? (i := 70) rfl))) (by decide) (backOf (W := 0) (rmnf2 l Z a0 hw []  h0 n0 Z0 ) hZ (hw _ (List.mem_of_getElem? (i := 70) rfl)) (hw _ (List.mem_of_getElem? (i := 57) rfl)) (by decide) (by decide)) (g := (mkF m 1 #[.val (.ref a1), .val (.int (0 : Int32)), .val (.int (2 : Int32)), .unset, .unset] [(.int (2 : Int32))])) rfl (by rw [hml]; rfl) (argsL := [(.int (2 : Int32))]) (rest := []) (lenOf pd_1 rfl) rfl (by show 2 * 0 + _ ≤ _; exact Nat.le_of_eq rfl) (hb hby d12_1) (fun _ _ => ⟨rfl, e0, (by decide : 0 + 1 ≤ _), (by decide : 0 + 4 ≤ _)⟩)
  dsimp only [Pt.U, Pt.locs, Pt.cells, Pt.slots] at X1 l1 y1 z1 st1 hQ1
  subst l1 y1 z1
  obtain ⟨bn1, rfl, N1q, hz1, K1, V1q⟩ := hQ1
  have N1 := Fr.app N0 N1q
  refine Gl.pre (fun _ k => st1 _ k) ?_
  have own_ne_a1_bn1 : a1 ≠ bn1 := Nat.ne_of_lt (Nat.lt_of_lt_of_le V_a1.lt hz1)
  have own_ne_bn1_a1 := own_ne_a1_bn1.symm
  have g_bn1 : n0 ≤ bn1 := Nat.le_trans Z0 hz1
  have sz_bn1 : h0.size ≤ bn1 := Nat.le_trans K0.1 hz1
  have V_a1 := V_a1.keep K1 nin0
  have O_ := O_.keep K1 all0
  have Z1 : n0 ≤ T1.heap.size := Nat.le_trans Z0 K1.1
  have K1k := K0.trans K1 all0
  have V_bn1 := V1q
  show Gl p.tables e below PP (T1.setTop (mkF m 4 #[.val (.ref a1), .val (.int (0 : Int32)), .val (.int (2 : Int32)), .unset, .unset] [(.ref bn1)]))
  refine Gl.pre (fun _ k => XS.astoreN X1.here hx rfl (hb hby d12_4) rfl rfl (l' := #[.val (.ref a1), .val (.int (0 : Int32)), .val (.int (2 : Int32)), .val (.ref bn1), .unset]) rfl k) ?_
  show Gl p.tables e below PP (T1.setTop (mkF m 5 #[.val (.ref a1), .val (.int (0 : Int32)), .val (.int (2 : Int32)), .val (.ref bn1), .unset] []))
  refine Gl.pre (fun _ k => XS.iconst X1.here hx rfl (hb hby d12_5) k) ?_
  show Gl p.tables e below PP (T1.setTop (mkF m 6 #[.val (.ref a1), .val (.int (0 : Int32)), .val (.int (2 : Int32)), .val (.ref bn1), .unset] [(.int (0 : Int32))]))
  refine Gl.pre (fun _ k => XS.istore X1.here hx rfl (hb hby d12_6) rfl (l' := #[.val (.ref a1), .val (.int (0 : Int32)), .val (.int (2 : Int32)), .val (.ref bn1), .val (.int (0 : Int32))]) rfl k) ?_
  show Gl p.tables e below PP (T1.setTop (mkF m 8 #[.val (.ref a1), .val (.int (0 : Int32)), .val (.int (2 : Int32)), .val (.ref bn1), .val (.int (0 : Int32))] []))
  refine Gl.pre (fun _ k => XS.iload X1.here hx rfl (hb hby d12_8) rfl k) ?_
  show Gl p.tables e below PP (T1.setTop (mkF m 10 #[.val (.ref a1), .val (.int (0 : Int32)), .val (.int (2 : Int32)), .val (.ref bn1), .val (.int (0 : Int32))] [(.int (0 : Int32))]))
  refine Gl.pre (fun _ k => XS.iloadN X1.here hx rfl (hb hby d12_10) rfl k) ?_
  show Gl p.tables e below PP (T1.setTop (mkF m 11 #[.val (.ref a1), .val (.int (0 : Int32)), .val (.int (2 : Int32)), .val (.ref bn1), .val (.int (0 : Int32))] [(.int (2 : Int32)), (.int (0 : Int32))]))
  refine Gl.pre (fun _ k => XS.icmpNo X1.here hx rfl (hb hby d12_11) rfl (tlt (show (0 : Int32) < (2 : Int32) from (by decide))).2.1 k) ?_
  show Gl p.tables e below PP (T1.setTop (mkF m 14 #[.val (.ref a1), .val (.int (0 : Int32)), .val (.int (2 : Int32)), .val (.ref bn1), .val (.int (0 : Int32))] []))
  refine Gl.pre (fun _ k => XS.aloadN X1.here hx rfl (hb hby d12_14) rfl rfl k) ?_
  show Gl p.tables e below PP (T1.setTop (mkF m 15 #[.val (.ref a1), .val (.int (0 : Int32)), .val (.int (2 : Int32)), .val (.ref bn1), .val (.int (0 : Int32))] [(.ref bn1)]))
  refine Gl.pre (fun _ k => XS.iload X1.here hx rfl (hb hby d12_15) rfl k) ?_
  show Gl p.tables e below PP (T1.setTop (mkF m 17 #[.val (.ref a1), .val (.int (0 : Int32)), .val (.int (2 : Int32)), .val (.ref bn1), .val (.int (0 : Int32))] [(.int (0 : Int32)), (.ref bn1)]))
  refine Gl.pre (fun _ k => XS.aloadN X1.here hx rfl (hb hby d12_17) rfl rfl k) ?_
  show Gl p.tables e below PP (T1.setTop (mkF m 18 #[.val (.ref a1), .val (.int (0 : Int32)), .val (.int (2 : Int32)), .val (.ref bn1), .val (.int (0 : Int32))] [(.ref a1), (.int (0 : Int32)), (.ref bn1)]))
  refine Gl.pre (fun _ k => XS.iloadN X1.here hx rfl (hb hby d12_18) rfl k) ?_
  show Gl p.tables e below PP (T1.setTop (mkF m 19 #[.val (.ref a1), .val (.int (0 : Int32)), .val (.int (2 : Int32)), .val (.ref bn1), .val (.int (0 : Int32))] [(.int (0 : Int32)), (.ref a1), (.int (0 : Int32)), (.ref bn1)]))
  refine Gl.pre (fun _ k => own_ldC X1 hx hZ rfl V_a1 (j := (0 : Int32)) (i := 0) (by decide) (by decide) (Nat.lt_of_lt_of_eq (by decide : 0 < 2) rfl) (v := c0) rfl (g := (mkF m 19 #[.val (.ref a1), .val (.int (0 : Int32)), .val (.int (2 : Int32)), .val (.ref bn1), .val (.int (0 : Int32))] [(.int (0 : Int32)), (.ref a1), (.int (0 : Int32)), (.ref bn1)])) rfl rfl (hb hby d12_19) _ k) ?_
  show Gl p.tables e below PP (T1.setTop (mkF m 20 #[.val (.ref a1), .val (.int (0 : Int32)), .val (.int (2 : Int32)), .val (.ref bn1), .val (.int (0 : Int32))] [(.int c0), (.int (0 : Int32)), (.ref bn1)]))
  obtain ⟨_, _, ⟨T2, L2, k2, n2⟩, -, X2, ⟨Lc2, hQ2, l2, y2, z2⟩, st2⟩ := Jvm.LawKit.callS X1 hx (y := (⟨"java/lang/StringUTF16", "putChar", "([BII)V"⟩ : MethodName)) hown (mvT hZ (hw _ (List.mem_of_getElem? (i := 75) rfl))) (mvT hZ (hw _ (List.mem_of_getElem? (i := 76) rfl))) (mvT hZ (hw _ (List.mem_of_getElem? (i := 57) rfl))) (mvT hZ (hw _ (List.mem_of_getElem? (i := 77) rfl))) (by decide) (backOf (W := 0) (rmpu0 l Z a0 hw [] bn1 c0 ([(0 : Int32), (0 : Int32), (0 : Int32), (0 : Int32)]) T1.heap n0 Z1 V_bn1 g_bn1 (Nat.lt_of_lt_of_eq (by decide : 1 < 4) rfl) SAD SHI SLO O_) hZ (hw _ (List.mem_of_getElem? (i := 77) rfl)) (hw _ (List.mem_of_getElem? (i := 57) rfl)) (by decide) (by decide)) (g := (mkF m 20 #[.val (.ref a1), .val (.int (0 : Int32)), .val (.int (2 : Int32)), .val (.ref bn1), .val (.int (0 : Int32))] [(.int c0), (.int (0 : Int32)), (.ref bn1)])) rfl (by rw [hml]; rfl) (argsL := [(.ref bn1), (.int (0 : Int32)), (.int c0)]) (rest := []) (lenOf pd_2 rfl) rfl (by show 2 * 0 + _ ≤ _; exact Nat.le_of_eq rfl) (hb hby d12_20) (fun _ _ => ⟨rfl, rfl, (by decide : 1 + 0 ≤ _), (by decide : 4 + 0 ≤ _)⟩)
  dsimp only [Pt.U, Pt.locs, Pt.cells, Pt.slots] at X2 l2 y2 z2 st2 hQ2
  subst l2 y2 z2
  obtain ⟨rfl, N2q, K2, V2q⟩ := hQ2
  have N2 := Fr.app N1 N2q
  refine Gl.pre (fun _ k => st2 _ k) ?_
  have V_a1 := V_a1.keep K2 (ninS (own_ne_a1_bn1) nin0)
  have O_ := O_.keep K2 (allS g_bn1 all0)
  have Z2 : n0 ≤ T2.heap.size := Nat.le_trans Z1 K2.1
  have K2k := K1k.trans K2 (allS (Or.inr sz_bn1) all0)
  have V_bn1 : Bal Z T2.heap bn1 .byte [(nar .byte ((c0 >>> ((0 : Int32) &&& 31)).toInt8.toInt32)), (nar .byte ((c0 >>> ((8 : Int32) &&& 31)).toInt8.toInt32)), (0 : Int32), (0 : Int32)] := V2q
  show Gl p.tables e below PP (T2.setTop (mkF m 23 #[.val (.ref a1), .val (.int (0 : Int32)), .val (.int (2 : Int32)), .val (.ref bn1), .val (.int (0 : Int32))] []))
  refine Gl.pre (fun _ k => XS.iinc X2.here hx rfl (hb hby d12_23) rfl (l' := #[.val (.ref a1), .val (.int (1 : Int32)), .val (.int (2 : Int32)), .val (.ref bn1), .val (.int (0 : Int32))]) rfl k) ?_
  show Gl p.tables e below PP (T2.setTop (mkF m 26 #[.val (.ref a1), .val (.int (1 : Int32)), .val (.int (2 : Int32)), .val (.ref bn1), .val (.int (0 : Int32))] []))
  refine Gl.pre (fun _ k => XS.iinc X2.here hx rfl (hb hby d12_26) rfl (l' := #[.val (.ref a1), .val (.int (1 : Int32)), .val (.int (2 : Int32)), .val (.ref bn1), .val (.int (1 : Int32))]) rfl k) ?_
  show Gl p.tables e below PP (T2.setTop (mkF m 29 #[.val (.ref a1), .val (.int (1 : Int32)), .val (.int (2 : Int32)), .val (.ref bn1), .val (.int (1 : Int32))] []))
  refine Gl.pre (fun _ k => XS.goto X2.here hx rfl (pc0 := 29) (pc' := 8) rfl (hb hby d12_29) (by decide) (by decide) k) ?_
  show Gl p.tables e below PP (T2.setTop (mkF m 8 #[.val (.ref a1), .val (.int (1 : Int32)), .val (.int (2 : Int32)), .val (.ref bn1), .val (.int (1 : Int32))] []))
  refine Gl.pre (fun _ k => XS.iload X2.here hx rfl (hb hby d12_8) rfl k) ?_
  show Gl p.tables e below PP (T2.setTop (mkF m 10 #[.val (.ref a1), .val (.int (1 : Int32)), .val (.int (2 : Int32)), .val (.ref bn1), .val (.int (1 : Int32))] [(.int (1 : Int32))]))
  refine Gl.pre (fun _ k => XS.iloadN X2.here hx rfl (hb hby d12_10) rfl k) ?_
  show Gl p.tables e below PP (T2.setTop (mkF m 11 #[.val (.ref a1), .val (.int (1 : Int32)), .val (.int (2 : Int32)), .val (.ref bn1), .val (.int (1 : Int32))] [(.int (2 : Int32)), (.int (1 : Int32))]))
  refine Gl.pre (fun _ k => XS.icmpNo X2.here hx rfl (hb hby d12_11) rfl (tlt (show (1 : Int32) < (2 : Int32) from (by decide))).2.1 k) ?_
  show Gl p.tables e below PP (T2.setTop (mkF m 14 #[.val (.ref a1), .val (.int (1 : Int32)), .val (.int (2 : Int32)), .val (.ref bn1), .val (.int (1 : Int32))] []))
  refine Gl.pre (fun _ k => XS.aloadN X2.here hx rfl (hb hby d12_14) rfl rfl k) ?_
  show Gl p.tables e below PP (T2.setTop (mkF m 15 #[.val (.ref a1), .val (.int (1 : Int32)), .val (.int (2 : Int32)), .val (.ref bn1), .val (.int (1 : Int32))] [(.ref bn1)]))
  refine Gl.pre (fun _ k => XS.iload X2.here hx rfl (hb hby d12_15) rfl k) ?_
  show Gl p.tables e below PP (T2.setTop (mkF m 17 #[.val (.ref a1), .val (.int (1 : Int32)), .val (.int (2 : Int32)), .val (.ref bn1), .val (.int (1 : Int32))] [(.int (1 : Int32)), (.ref bn1)]))
  refine Gl.pre (fun _ k => XS.aloadN X2.here hx rfl (hb hby d12_17) rfl rfl k) ?_
  show Gl p.tables e below PP (T2.setTop (mkF m 18 #[.val (.ref a1), .val (.int (1 : Int32)), .val (.int (2 : Int32)), .val (.ref bn1), .val (.int (1 : Int32))] [(.ref a1), (.int (1 : Int32)), (.ref bn1)]))
  refine Gl.pre (fun _ k => XS.iloadN X2.here hx rfl (hb hby d12_18) rfl k) ?_
  show Gl p.tables e below PP (T2.setTop (mkF m 19 #[.val (.ref a1), .val (.int (1 : Int32)), .val (.int (2 : Int32)), .val (.ref bn1), .val (.int (1 : Int32))] [(.int (1 : Int32)), (.ref a1), (.int (1 : Int32)), (.ref bn1)]))
  refine Gl.pre (fun _ k => own_ldC X2 hx hZ rfl V_a1 (j := (1 : Int32)) (i := 1) (by decide) (by decide) (Nat.lt_of_lt_of_eq (by decide : 1 < 2) rfl) (v := c1) rfl (g := (mkF m 19 #[.val (.ref a1), .val (.int (1 : Int32)), .val (.int (2 : Int32)), .val (.ref bn1), .val (.int (1 : Int32))] [(.int (1 : Int32)), (.ref a1), (.int (1 : Int32)), (.ref bn1)])) rfl rfl (hb hby d12_19) _ k) ?_
  show Gl p.tables e below PP (T2.setTop (mkF m 20 #[.val (.ref a1), .val (.int (1 : Int32)), .val (.int (2 : Int32)), .val (.ref bn1), .val (.int (1 : Int32))] [(.int c1), (.int (1 : Int32)), (.ref bn1)]))
  obtain ⟨_, _, ⟨T3, L3, k3, n3⟩, -, X3, ⟨Lc3, hQ3, l3, y3, z3⟩, st3⟩ := Jvm.LawKit.callS X2 hx (y := (⟨"java/lang/StringUTF16", "putChar", "([BII)V"⟩ : MethodName)) hown (mvT hZ (hw _ (List.mem_of_getElem? (i := 75) rfl))) (mvT hZ (hw _ (List.mem_of_getElem? (i := 76) rfl))) (mvT hZ (hw _ (List.mem_of_getElem? (i := 57) rfl))) (mvT hZ (hw _ (List.mem_of_getElem? (i := 77) rfl))) (by decide) (backOf (W := 0) (rmpu1 l Z a0 hw [] bn1 c1 ([(nar .byte ((c0 >>> ((0 : Int32) &&& 31)).toInt8.toInt32)), (nar .byte ((c0 >>> ((8 : Int32) &&& 31)).toInt8.toInt32)), (0 : Int32), (0 : Int32)]) T2.heap n0 Z2 V_bn1 g_bn1 (Nat.lt_of_lt_of_eq (by decide : 3 < 4) rfl) SAD SHI SLO O_) hZ (hw _ (List.mem_of_getElem? (i := 77) rfl)) (hw _ (List.mem_of_getElem? (i := 57) rfl)) (by decide) (by decide)) (g := (mkF m 20 #[.val (.ref a1), .val (.int (1 : Int32)), .val (.int (2 : Int32)), .val (.ref bn1), .val (.int (1 : Int32))] [(.int c1), (.int (1 : Int32)), (.ref bn1)])) rfl (by rw [hml]; rfl) (argsL := [(.ref bn1), (.int (1 : Int32)), (.int c1)]) (rest := []) (lenOf pd_2 rfl) rfl (by show 2 * 0 + _ ≤ _; exact Nat.le_of_eq rfl) (hb hby d12_20) (fun _ _ => ⟨rfl, rfl, (by decide : 1 + 0 ≤ _), (by decide : 4 + 0 ≤ _)⟩)
  dsimp only [Pt.U, Pt.locs, Pt.cells, Pt.slots] at X3 l3 y3 z3 st3 hQ3
  subst l3 y3 z3
  obtain ⟨rfl, N3q, K3, V3q⟩ := hQ3
  have N3 := Fr.app N2 N3q
  refine Gl.pre (fun _ k => st3 _ k) ?_
  have V_a1 := V_a1.keep K3 (ninS (own_ne_a1_bn1) nin0)
  have O_ := O_.keep K3 (allS g_bn1 all0)
  have Z3 : n0 ≤ T3.heap.size := Nat.le_trans Z2 K3.1
  have K3k := K2k.trans K3 (allS (Or.inr sz_bn1) all0)
  have V_bn1 : Bal Z T3.heap bn1 .byte [(nar .byte ((c0 >>> ((0 : Int32) &&& 31)).toInt8.toInt32)), (nar .byte ((c0 >>> ((8 : Int32) &&& 31)).toInt8.toInt32)), (nar .byte ((c1 >>> ((0 : Int32) &&& 31)).toInt8.toInt32)), (nar .byte ((c1 >>> ((8 : Int32) &&& 31)).toInt8.toInt32))] := V3q
  show Gl p.tables e below PP (T3.setTop (mkF m 23 #[.val (.ref a1), .val (.int (1 : Int32)), .val (.int (2 : Int32)), .val (.ref bn1), .val (.int (1 : Int32))] []))
  refine Gl.pre (fun _ k => XS.iinc X3.here hx rfl (hb hby d12_23) rfl (l' := #[.val (.ref a1), .val (.int (2 : Int32)), .val (.int (2 : Int32)), .val (.ref bn1), .val (.int (1 : Int32))]) rfl k) ?_
  show Gl p.tables e below PP (T3.setTop (mkF m 26 #[.val (.ref a1), .val (.int (2 : Int32)), .val (.int (2 : Int32)), .val (.ref bn1), .val (.int (1 : Int32))] []))
  refine Gl.pre (fun _ k => XS.iinc X3.here hx rfl (hb hby d12_26) rfl (l' := #[.val (.ref a1), .val (.int (2 : Int32)), .val (.int (2 : Int32)), .val (.ref bn1), .val (.int (2 : Int32))]) rfl k) ?_
  show Gl p.tables e below PP (T3.setTop (mkF m 29 #[.val (.ref a1), .val (.int (2 : Int32)), .val (.int (2 : Int32)), .val (.ref bn1), .val (.int (2 : Int32))] []))
  refine Gl.pre (fun _ k => XS.goto X3.here hx rfl (pc0 := 29) (pc' := 8) rfl (hb hby d12_29) (by decide) (by decide) k) ?_
  show Gl p.tables e below PP (T3.setTop (mkF m 8 #[.val (.ref a1), .val (.int (2 : Int32)), .val (.int (2 : Int32)), .val (.ref bn1), .val (.int (2 : Int32))] []))
  refine Gl.pre (fun _ k => XS.iload X3.here hx rfl (hb hby d12_8) rfl k) ?_
  show Gl p.tables e below PP (T3.setTop (mkF m 10 #[.val (.ref a1), .val (.int (2 : Int32)), .val (.int (2 : Int32)), .val (.ref bn1), .val (.int (2 : Int32))] [(.int (2 : Int32))]))
  refine Gl.pre (fun _ k => XS.iloadN X3.here hx rfl (hb hby d12_10) rfl k) ?_
  show Gl p.tables e below PP (T3.setTop (mkF m 11 #[.val (.ref a1), .val (.int (2 : Int32)), .val (.int (2 : Int32)), .val (.ref bn1), .val (.int (2 : Int32))] [(.int (2 : Int32)), (.int (2 : Int32))]))
  refine Gl.pre (fun _ k => XS.icmpYes X3.here hx rfl (pc0 := 11) (pc' := 32) rfl (hb hby d12_11) rfl (flt (show ¬ ((2 : Int32) < (2 : Int32)) from (by decide))).2.1 (by decide) (by decide) k) ?_
  show Gl p.tables e below PP (T3.setTop (mkF m 32 #[.val (.ref a1), .val (.int (2 : Int32)), .val (.int (2 : Int32)), .val (.ref bn1), .val (.int (2 : Int32))] []))
  refine Gl.pre (fun _ k => XS.aloadN X3.here hx rfl (hb hby d12_32) rfl rfl k) ?_
  show Gl p.tables e below PP (T3.setTop (mkF m 33 #[.val (.ref a1), .val (.int (2 : Int32)), .val (.int (2 : Int32)), .val (.ref bn1), .val (.int (2 : Int32))] [(.ref bn1)]))
  rw [hPP]
  refine own_finA (Q := (Qtb2 Z a1 c0 c1 h0 n0)) X3 hx hlk Bd.returns rfl rfl (hb hby d12_33) ?_ (by decide) (by decide)
  show Qtb2 Z a1 c0 c1 h0 n0 _ T3.heap _
  exact ⟨bn1, rfl, N3, sz_bn1, K3k, V_bn1⟩
theorem ef_gc2_0 (m : MethodId) (a1 : Addr) (y0 : Int32) (y1 : Int32) (y2 : Int32) (y3 : Int32) : entryFrame m #[(.ref a1), (.int (0 : Int32))] 2 = mkF m 0 #[.val (.ref a1), .val (.int (0 : Int32))] [] := by first | (simp [entryFrame, mkF, argsToLocals, Value.category]; done) | rfl
def Qgc2_0 (Z : State) (a1 : Addr) (y0 : Int32) (y1 : Int32) (y2 : Int32) (y3 : Int32) (h0 : Heap) (n0 : Nat) (v : Option Value) (h : Heap) (L : List Loc) : Prop := v = some (.int (nar .char ((((y0 &&& (255 : Int32)) <<< ((0 : Int32) &&& 31)) ||| ((y1 &&& (255 : Int32)) <<< ((8 : Int32) &&& 31))).toUInt32.toUInt16.toUInt32.toInt32))) ∧ Fr n0 L ∧ h = h0
set_option maxRecDepth 65536 in
set_option maxHeartbeats 40000000 in
theorem rmgc2_0 (l : Launch) (Z : State) (a0 : Array Value) (hw : ∀ d ∈ tables_1, d.before a0 Z = true) (ws : List Jvm.Cond) (a1 : Addr) (y0 : Int32) (y1 : Int32) (y2 : Int32) (y3 : Int32) (h0 : Heap) (n0 : Nat) (Z0 : n0 ≤ h0.size) (V_a1 : Bal Z h0 a1 .byte [y0, y1, y2, y3]) (SAD : Sta Z Z.heap "java/lang/StringUTF16" "$assertionsDisabled" "Z" (.int (1 : Int32))) (SHI : Sta Z Z.heap "java/lang/StringUTF16" "HI_BYTE_SHIFT" "I" (.int (0 : Int32))) (SLO : Sta Z Z.heap "java/lang/StringUTF16" "LO_BYTE_SHIFT" "I" (.int (8 : Int32))) (O_ : Old Z n0 h0) :
    MetFree l (⟨"java/lang/StringUTF16", "getChar", "([BI)C"⟩ : MethodName) (head1 (Jvm.Cond.code (⟨"java/lang/StringUTF16", "getChar", "([BI)C"⟩ : MethodName) jdk_52_method_5_code 2 (some .char) :: ws) ({ frames := 0, cells := 0, slots := 0, locals := 0 } : Room)) (fun a U => a = #[(.ref a1), (.int (0 : Int32))] ∧ Z.Warmed39 U.vm ∧ U.heap = h0) (fun _ _ _ _ _ => True) (fun _ U o U' => ∃ v L, o = .returned v ∧ Qgc2_0 Z a1 y0 y1 y2 y3 h0 n0 v U'.heap L ∧ FrameEnd U o U' L ({ frames := 0, cells := 0, slots := 0, locals := 0 } : Room).cells ({ frames := 0, cells := 0, slots := 0, locals := 0 } : Room).slots) := by
  refine MetFree.of_bodySF (plainFor_of_name pn_16) hisR ?_
  intro p e s m args below meth c s₁ Bd hml0 hP hK
  obtain ⟨rfl, hZ, hh⟩ := hP
  have hx := Bd.exec
  have hby := Bd.bytes
  have hlk : meth.locks = false := BodyLoose.notSynchronized Bd
  have hml : c.maxLocals = 2 := hml0
  have hown : s.vm.findClass "java/lang/StringUTF16" = some m.cls := findClass_of_methodNamed Bd.named
  have hnm := (name_of_methodNamed Bd.named Bd.method).1
  have X0 : Stand p l e ({ frames := 0, cells := 0, slots := 0, locals := 0 } : Room) s m #[(.ref a1), (.int (0 : Int32))] below meth c s₁ [] 0 0 := Stand.of_body Bd
  have e0 : s₁.heap = h0 := by rw [← hh, Bd.state]; rfl
  have N0 := Fr.nil n0
  show Gl p.tables e below (fun (o : Outcome) (U' : State) => ∃ v L, o = .returned v ∧ Qgc2_0 Z a1 y0 y1 y2 y3 h0 n0 v U'.heap L ∧ FrameEnd s o U' L ({ frames := 0, cells := 0, slots := 0, locals := 0 } : Room).cells ({ frames := 0, cells := 0, slots := 0, locals := 0 } : Room).slots) _
  refine Gl.pre (fun t k => castTop (ef_gc2_0 m a1 y0 y1 y2 y3) k) ?_
  obtain ⟨PP, hPP⟩ : ∃ P : Outcome → State → Prop, P = (fun (o : Outcome) (U' : State) => ∃ v L, o = .returned v ∧ Qgc2_0 Z a1 y0 y1 y2 y3 h0 n0 v U'.heap L ∧ FrameEnd s o U' L ({ frames := 0, cells := 0, slots := 0, locals := 0 } : Room).cells ({ frames := 0, cells := 0, slots := 0, locals := 0 } : Room).slots) := ⟨_, rfl⟩
  rw [← hPP]
  show Gl p.tables e below PP (s₁.setTop (mkF m 0 #[.val (.ref a1), .val (.int (0 : Int32))] []))
  obtain ⟨T1, X1, e1, st1⟩ := getS2 X0 hx hZ hown (host := "") (Or.inl (hw _ (List.mem_of_getElem? (i := 78) rfl))) Via.refl e0 (SAD.ext O_.2) (g := (mkF m 0 #[.val (.ref a1), .val (.int (0 : Int32))] [])) rfl (hb hby d16_0)
  refine Gl.pre (fun _ k => st1 _ k) ?_
  show Gl p.tables e below PP (T1.setTop (mkF m 3 #[.val (.ref a1), .val (.int (0 : Int32))] [(.int (1 : Int32))]))
  refine Gl.pre (fun _ k => XS.ifYes X1.here hx rfl (pc0 := 3) (pc' := 28) rfl (hb hby d16_3) rfl ((if0 _ _).trans (feq (show ¬ ((1 : Int32) = (0 : Int32)) from (by decide))).2) (by decide) (by decide) k) ?_
  show Gl p.tables e below PP (T1.setTop (mkF m 28 #[.val (.ref a1), .val (.int (0 : Int32))] []))
  refine Gl.pre (fun _ k => XS.iloadN X1.here hx rfl (hb hby d16_28) rfl k) ?_
  show Gl p.tables e below PP (T1.setTop (mkF m 29 #[.val (.ref a1), .val (.int (0 : Int32))] [(.int (0 : Int32))]))
  refine Gl.pre (fun _ k => XS.iconst X1.here hx rfl (hb hby d16_29) k) ?_
  show Gl p.tables e below PP (T1.setTop (mkF m 30 #[.val (.ref a1), .val (.int (0 : Int32))] [(.int (1 : Int32)), (.int (0 : Int32))]))
  refine Gl.pre (fun _ k => XS.ishl X1.here hx rfl (hb hby d16_30) rfl k) ?_
  show Gl p.tables e below PP (T1.setTop (mkF m 31 #[.val (.ref a1), .val (.int (0 : Int32))] [(.int ((0 : Int32) <<< ((1 : Int32) &&& 31)))]))
  rw [show ((0 : Int32) <<< ((1 : Int32) &&& 31)) = (0 : Int32) by decide]
  show Gl p.tables e below PP (T1.setTop (mkF m 31 #[.val (.ref a1), .val (.int (0 : Int32))] [(.int (0 : Int32))]))
  refine Gl.pre (fun _ k => XS.istoreN X1.here hx rfl (hb hby d16_31) rfl (l' := #[.val (.ref a1), .val (.int (0 : Int32))]) rfl k) ?_
  show Gl p.tables e below PP (T1.setTop (mkF m 32 #[.val (.ref a1), .val (.int (0 : Int32))] []))
  refine Gl.pre (fun _ k => XS.aloadN X1.here hx rfl (hb hby d16_32) rfl rfl k) ?_
  show Gl p.tables e below PP (T1.setTop (mkF m 33 #[.val (.ref a1), .val (.int (0 : Int32))] [(.ref a1)]))
  refine Gl.pre (fun _ k => XS.iloadN X1.here hx rfl (hb hby d16_33) rfl k) ?_
  show Gl p.tables e below PP (T1.setTop (mkF m 34 #[.val (.ref a1), .val (.int (0 : Int32))] [(.int (0 : Int32)), (.ref a1)]))
  refine Gl.pre (fun _ k => XS.iinc X1.here hx rfl (hb hby d16_34) rfl (l' := #[.val (.ref a1), .val (.int (1 : Int32))]) rfl k) ?_
  show Gl p.tables e below PP (T1.setTop (mkF m 37 #[.val (.ref a1), .val (.int (1 : Int32))] [(.int (0 : Int32)), (.ref a1)]))
  refine Gl.pre (fun _ k => own_ldB X1 hx hZ e1 V_a1 (j := (0 : Int32)) (i := 0) (by decide) (by decide) (Nat.lt_of_lt_of_eq (by decide : 0 < 4) rfl) (v := y0) rfl (g := (mkF m 37 #[.val (.ref a1), .val (.int (1 : Int32))] [(.int (0 : Int32)), (.ref a1)])) rfl rfl (hb hby d16_37) _ k) ?_
  show Gl p.tables e below PP (T1.setTop (mkF m 38 #[.val (.ref a1), .val (.int (1 : Int32))] [(.int y0)]))
  refine Gl.pre (fun _ k => XS.sipush X1.here hx rfl (hb hby d16_38) k) ?_
  show Gl p.tables e below PP (T1.setTop (mkF m 41 #[.val (.ref a1), .val (.int (1 : Int32))] [(.int (255 : Int32)), (.int y0)]))
  refine Gl.pre (fun _ k => XS.iand X1.here hx rfl (hb hby d16_41) rfl k) ?_
  show Gl p.tables e below PP (T1.setTop (mkF m 42 #[.val (.ref a1), .val (.int (1 : Int32))] [(.int (y0 &&& (255 : Int32)))]))
  obtain ⟨T2, X2, e2, st2⟩ := getS2 X1 hx hZ hown (host := "") (Or.inl (hw _ (List.mem_of_getElem? (i := 79) rfl))) Via.refl e1 (SHI.ext O_.2) (g := (mkF m 42 #[.val (.ref a1), .val (.int (1 : Int32))] [(.int (y0 &&& (255 : Int32)))])) rfl (hb hby d16_42)
  refine Gl.pre (fun _ k => st2 _ k) ?_
  show Gl p.tables e below PP (T2.setTop (mkF m 45 #[.val (.ref a1), .val (.int (1 : Int32))] [(.int (0 : Int32)), (.int (y0 &&& (255 : Int32)))]))
  refine Gl.pre (fun _ k => XS.ishl X2.here hx rfl (hb hby d16_45) rfl k) ?_
  show Gl p.tables e below PP (T2.setTop (mkF m 46 #[.val (.ref a1), .val (.int (1 : Int32))] [(.int ((y0 &&& (255 : Int32)) <<< ((0 : Int32) &&& 31)))]))
  refine Gl.pre (fun _ k => XS.aloadN X2.here hx rfl (hb hby d16_46) rfl rfl k) ?_
  show Gl p.tables e below PP (T2.setTop (mkF m 47 #[.val (.ref a1), .val (.int (1 : Int32))] [(.ref a1), (.int ((y0 &&& (255 : Int32)) <<< ((0 : Int32) &&& 31)))]))
  refine Gl.pre (fun _ k => XS.iloadN X2.here hx rfl (hb hby d16_47) rfl k) ?_
  show Gl p.tables e below PP (T2.setTop (mkF m 48 #[.val (.ref a1), .val (.int (1 : Int32))] [(.int (1 : Int32)), (.ref a1), (.int ((y0 &&& (255 : Int32)) <<< ((0 : Int32) &&& 31)))]))
  refine Gl.pre (fun _ k => own_ldB X2 hx hZ e2 V_a1 (j := (1 : Int32)) (i := 1) (by decide) (by decide) (Nat.lt_of_lt_of_eq (by decide : 1 < 4) rfl) (v := y1) rfl (g := (mkF m 48 #[.val (.ref a1), .val (.int (1 : Int32))] [(.int (1 : Int32)), (.ref a1), (.int ((y0 &&& (255 : Int32)) <<< ((0 : Int32) &&& 31)))])) rfl rfl (hb hby d16_48) _ k) ?_
  show Gl p.tables e below PP (T2.setTop (mkF m 49 #[.val (.ref a1), .val (.int (1 : Int32))] [(.int y1), (.int ((y0 &&& (255 : Int32)) <<< ((0 : Int32) &&& 31)))]))
  refine Gl.pre (fun _ k => XS.sipush X2.here hx rfl (hb hby d16_49) k) ?_
  show Gl p.tables e below PP (T2.setTop (mkF m 52 #[.val (.ref a1), .val (.int (1 : Int32))] [(.int (255 : Int32)), (.int y1), (.int ((y0 &&& (255 : Int32)) <<< ((0 : Int32) &&& 31)))]))
  refine Gl.pre (fun _ k => XS.iand X2.here hx rfl (hb hby d16_52) rfl k) ?_
  show Gl p.tables e below PP (T2.setTop (mkF m 53 #[.val (.ref a1), .val (.int (1 : Int32))] [(.int (y1 &&& (255 : Int32))), (.int ((y0 &&& (255 : Int32)) <<< ((0 : Int32) &&& 31)))]))
  obtain ⟨T3, X3, e3, st3⟩ := getS2 X2 hx hZ hown (host := "") (Or.inl (hw _ (List.mem_of_getElem? (i := 80) rfl))) Via.refl e2 (SLO.ext O_.2) (g := (mkF m 53 #[.val (.ref a1), .val (.int (1 : Int32))] [(.int (y1 &&& (255 : Int32))), (.int ((y0 &&& (255 : Int32)) <<< ((0 : Int32) &&& 31)))])) rfl (hb hby d16_53)
  refine Gl.pre (fun _ k => st3 _ k) ?_
  show Gl p.tables e below PP (T3.setTop (mkF m 56 #[.val (.ref a1), .val (.int (1 : Int32))] [(.int (8 : Int32)), (.int (y1 &&& (255 : Int32))), (.int ((y0 &&& (255 : Int32)) <<< ((0 : Int32) &&& 31)))]))
  refine Gl.pre (fun _ k => XS.ishl X3.here hx rfl (hb hby d16_56) rfl k) ?_
  show Gl p.tables e below PP (T3.setTop (mkF m 57 #[.val (.ref a1), .val (.int (1 : Int32))] [(.int ((y1 &&& (255 : Int32)) <<< ((8 : Int32) &&& 31))), (.int ((y0 &&& (255 : Int32)) <<< ((0 : Int32) &&& 31)))]))
  refine Gl.pre (fun _ k => XS.ior X3.here hx rfl (hb hby d16_57) rfl k) ?_
  show Gl p.tables e below PP (T3.setTop (mkF m 58 #[.val (.ref a1), .val (.int (1 : Int32))] [(.int (((y0 &&& (255 : Int32)) <<< ((0 : Int32) &&& 31)) ||| ((y1 &&& (255 : Int32)) <<< ((8 : Int32) &&& 31))))]))
  refine Gl.pre (fun _ k => XS.i2c X3.here hx rfl (hb hby d16_58) rfl k) ?_
  show Gl p.tables e below PP (T3.setTop (mkF m 59 #[.val (.ref a1), .val (.int (1 : Int32))] [(.int ((((y0 &&& (255 : Int32)) <<< ((0 : Int32) &&& 31)) ||| ((y1 &&& (255 : Int32)) <<< ((8 : Int32) &&& 31))).toUInt32.toUInt16.toUInt32.toInt32))]))
  rw [hPP]
  refine own_finN (Q := (Qgc2_0 Z a1 y0 y1 y2 y3 h0 n0)) X3 hx hlk Bd.returns (t := .char) (by simp) rfl (hb hby d16_59) ?_ (by decide) (by decide)
  show Qgc2_0 Z a1 y0 y1 y2 y3 h0 n0 _ T3.heap _
  rw [e3]
  exact ⟨rfl, N0, rfl⟩
theorem ef_gc2_1 (m : MethodId) (a1 : Addr) (y0 : Int32) (y1 : Int32) (y2 : Int32) (y3 : Int32) : entryFrame m #[(.ref a1), (.int (1 : Int32))] 2 = mkF m 0 #[.val (.ref a1), .val (.int (1 : Int32))] [] := by first | (simp [entryFrame, mkF, argsToLocals, Value.category]; done) | rfl
def Qgc2_1 (Z : State) (a1 : Addr) (y0 : Int32) (y1 : Int32) (y2 : Int32) (y3 : Int32) (h0 : Heap) (n0 : Nat) (v : Option Value) (h : Heap) (L : List Loc) : Prop := v = some (.int (nar .char ((((y2 &&& (255 : Int32)) <<< ((0 : Int32) &&& 31)) ||| ((y3 &&& (255 : Int32)) <<< ((8 : Int32) &&& 31))).toUInt32.toUInt16.toUInt32.toInt32))) ∧ Fr n0 L ∧ h = h0
set_option maxRecDepth 65536 in
set_option maxHeartbeats 40000000 in
theorem rmgc2_1 (l : Launch) (Z : State) (a0 : Array Value) (hw : ∀ d ∈ tables_1, d.before a0 Z = true) (ws : List Jvm.Cond) (a1 : Addr) (y0 : Int32) (y1 : Int32) (y2 : Int32) (y3 : Int32) (h0 : Heap) (n0 : Nat) (Z0 : n0 ≤ h0.size) (V_a1 : Bal Z h0 a1 .byte [y0, y1, y2, y3]) (SAD : Sta Z Z.heap "java/lang/StringUTF16" "$assertionsDisabled" "Z" (.int (1 : Int32))) (SHI : Sta Z Z.heap "java/lang/StringUTF16" "HI_BYTE_SHIFT" "I" (.int (0 : Int32))) (SLO : Sta Z Z.heap "java/lang/StringUTF16" "LO_BYTE_SHIFT" "I" (.int (8 : Int32))) (O_ : Old Z n0 h0) :
    MetFree l (⟨"java/lang/StringUTF16", "getChar", "([BI)C"⟩ : MethodName) (head1 (Jvm.Cond.code (⟨"java/lang/StringUTF16", "getChar", "([BI)C"⟩ : MethodName) jdk_52_method_5_code 2 (some .char) :: ws) ({ frames := 0, cells := 0, slots := 0, locals := 0 } : Room)) (fun a U => a = #[(.ref a1), (.int (1 : Int32))] ∧ Z.Warmed39 U.vm ∧ U.heap = h0) (fun _ _ _ _ _ => True) (fun _ U o U' => ∃ v L, o = .returned v ∧ Qgc2_1 Z a1 y0 y1 y2 y3 h0 n0 v U'.heap L ∧ FrameEnd U o U' L ({ frames := 0, cells := 0, slots := 0, locals := 0 } : Room).cells ({ frames := 0, cells := 0, slots := 0, locals := 0 } : Room).slots) := by
  refine MetFree.of_bodySF (plainFor_of_name pn_16) hisR ?_
  intro p e s m args below meth c s₁ Bd hml0 hP hK
  obtain ⟨rfl, hZ, hh⟩ := hP
  have hx := Bd.exec
  have hby := Bd.bytes
  have hlk : meth.locks = false := BodyLoose.notSynchronized Bd
  have hml : c.maxLocals = 2 := hml0
  have hown : s.vm.findClass "java/lang/StringUTF16" = some m.cls := findClass_of_methodNamed Bd.named
  have hnm := (name_of_methodNamed Bd.named Bd.method).1
  have X0 : Stand p l e ({ frames := 0, cells := 0, slots := 0, locals := 0 } : Room) s m #[(.ref a1), (.int (1 : Int32))] below meth c s₁ [] 0 0 := Stand.of_body Bd
  have e0 : s₁.heap = h0 := by rw [← hh, Bd.state]; rfl
  have N0 := Fr.nil n0
  show Gl p.tables e below (fun (o : Outcome) (U' : State) => ∃ v L, o = .returned v ∧ Qgc2_1 Z a1 y0 y1 y2 y3 h0 n0 v U'.heap L ∧ FrameEnd s o U' L ({ frames := 0, cells := 0, slots := 0, locals := 0 } : Room).cells ({ frames := 0, cells := 0, slots := 0, locals := 0 } : Room).slots) _
  refine Gl.pre (fun t k => castTop (ef_gc2_1 m a1 y0 y1 y2 y3) k) ?_
  obtain ⟨PP, hPP⟩ : ∃ P : Outcome → State → Prop, P = (fun (o : Outcome) (U' : State) => ∃ v L, o = .returned v ∧ Qgc2_1 Z a1 y0 y1 y2 y3 h0 n0 v U'.heap L ∧ FrameEnd s o U' L ({ frames := 0, cells := 0, slots := 0, locals := 0 } : Room).cells ({ frames := 0, cells := 0, slots := 0, locals := 0 } : Room).slots) := ⟨_, rfl⟩
  rw [← hPP]
  show Gl p.tables e below PP (s₁.setTop (mkF m 0 #[.val (.ref a1), .val (.int (1 : Int32))] []))
  obtain ⟨T1, X1, e1, st1⟩ := getS2 X0 hx hZ hown (host := "") (Or.inl (hw _ (List.mem_of_getElem? (i := 78) rfl))) Via.refl e0 (SAD.ext O_.2) (g := (mkF m 0 #[.val (.ref a1), .val (.int (1 : Int32))] [])) rfl (hb hby d16_0)
  refine Gl.pre (fun _ k => st1 _ k) ?_
  show Gl p.tables e below PP (T1.setTop (mkF m 3 #[.val (.ref a1), .val (.int (1 : Int32))] [(.int (1 : Int32))]))
  refine Gl.pre (fun _ k => XS.ifYes X1.here hx rfl (pc0 := 3) (pc' := 28) rfl (hb hby d16_3) rfl ((if0 _ _).trans (feq (show ¬ ((1 : Int32) = (0 : Int32)) from (by decide))).2) (by decide) (by decide) k) ?_
  show Gl p.tables e below PP (T1.setTop (mkF m 28 #[.val (.ref a1), .val (.int (1 : Int32))] []))
  refine Gl.pre (fun _ k => XS.iloadN X1.here hx rfl (hb hby d16_28) rfl k) ?_
  show Gl p.tables e below PP (T1.setTop (mkF m 29 #[.val (.ref a1), .val (.int (1 : Int32))] [(.int (1 : Int32))]))
  refine Gl.pre (fun _ k => XS.iconst X1.here hx rfl (hb hby d16_29) k) ?_
  show Gl p.tables e below PP (T1.setTop (mkF m 30 #[.val (.ref a1), .val (.int (1 : Int32))] [(.int (1 : Int32)), (.int (1 : Int32))]))
  refine Gl.pre (fun _ k => XS.ishl X1.here hx rfl (hb hby d16_30) rfl k) ?_
  show Gl p.tables e below PP (T1.setTop (mkF m 31 #[.val (.ref a1), .val (.int (1 : Int32))] [(.int ((1 : Int32) <<< ((1 : Int32) &&& 31)))]))
  rw [show ((1 : Int32) <<< ((1 : Int32) &&& 31)) = (2 : Int32) by decide]
  show Gl p.tables e below PP (T1.setTop (mkF m 31 #[.val (.ref a1), .val (.int (1 : Int32))] [(.int (2 : Int32))]))
  refine Gl.pre (fun _ k => XS.istoreN X1.here hx rfl (hb hby d16_31) rfl (l' := #[.val (.ref a1), .val (.int (2 : Int32))]) rfl k) ?_
  show Gl p.tables e below PP (T1.setTop (mkF m 32 #[.val (.ref a1), .val (.int (2 : Int32))] []))
  refine Gl.pre (fun _ k => XS.aloadN X1.here hx rfl (hb hby d16_32) rfl rfl k) ?_
  show Gl p.tables e below PP (T1.setTop (mkF m 33 #[.val (.ref a1), .val (.int (2 : Int32))] [(.ref a1)]))
  refine Gl.pre (fun _ k => XS.iloadN X1.here hx rfl (hb hby d16_33) rfl k) ?_
  show Gl p.tables e below PP (T1.setTop (mkF m 34 #[.val (.ref a1), .val (.int (2 : Int32))] [(.int (2 : Int32)), (.ref a1)]))
  refine Gl.pre (fun _ k => XS.iinc X1.here hx rfl (hb hby d16_34) rfl (l' := #[.val (.ref a1), .val (.int (3 : Int32))]) rfl k) ?_
  show Gl p.tables e below PP (T1.setTop (mkF m 37 #[.val (.ref a1), .val (.int (3 : Int32))] [(.int (2 : Int32)), (.ref a1)]))
  refine Gl.pre (fun _ k => own_ldB X1 hx hZ e1 V_a1 (j := (2 : Int32)) (i := 2) (by decide) (by decide) (Nat.lt_of_lt_of_eq (by decide : 2 < 4) rfl) (v := y2) rfl (g := (mkF m 37 #[.val (.ref a1), .val (.int (3 : Int32))] [(.int (2 : Int32)), (.ref a1)])) rfl rfl (hb hby d16_37) _ k) ?_
  show Gl p.tables e below PP (T1.setTop (mkF m 38 #[.val (.ref a1), .val (.int (3 : Int32))] [(.int y2)]))
  refine Gl.pre (fun _ k => XS.sipush X1.here hx rfl (hb hby d16_38) k) ?_
  show Gl p.tables e below PP (T1.setTop (mkF m 41 #[.val (.ref a1), .val (.int (3 : Int32))] [(.int (255 : Int32)), (.int y2)]))
  refine Gl.pre (fun _ k => XS.iand X1.here hx rfl (hb hby d16_41) rfl k) ?_
  show Gl p.tables e below PP (T1.setTop (mkF m 42 #[.val (.ref a1), .val (.int (3 : Int32))] [(.int (y2 &&& (255 : Int32)))]))
  obtain ⟨T2, X2, e2, st2⟩ := getS2 X1 hx hZ hown (host := "") (Or.inl (hw _ (List.mem_of_getElem? (i := 79) rfl))) Via.refl e1 (SHI.ext O_.2) (g := (mkF m 42 #[.val (.ref a1), .val (.int (3 : Int32))] [(.int (y2 &&& (255 : Int32)))])) rfl (hb hby d16_42)
  refine Gl.pre (fun _ k => st2 _ k) ?_
  show Gl p.tables e below PP (T2.setTop (mkF m 45 #[.val (.ref a1), .val (.int (3 : Int32))] [(.int (0 : Int32)), (.int (y2 &&& (255 : Int32)))]))
  refine Gl.pre (fun _ k => XS.ishl X2.here hx rfl (hb hby d16_45) rfl k) ?_
  show Gl p.tables e below PP (T2.setTop (mkF m 46 #[.val (.ref a1), .val (.int (3 : Int32))] [(.int ((y2 &&& (255 : Int32)) <<< ((0 : Int32) &&& 31)))]))
  refine Gl.pre (fun _ k => XS.aloadN X2.here hx rfl (hb hby d16_46) rfl rfl k) ?_
  show Gl p.tables e below PP (T2.setTop (mkF m 47 #[.val (.ref a1), .val (.int (3 : Int32))] [(.ref a1), (.int ((y2 &&& (255 : Int32)) <<< ((0 : Int32) &&& 31)))]))
  refine Gl.pre (fun _ k => XS.iloadN X2.here hx rfl (hb hby d16_47) rfl k) ?_
  show Gl p.tables e below PP (T2.setTop (mkF m 48 #[.val (.ref a1), .val (.int (3 : Int32))] [(.int (3 : Int32)), (.ref a1), (.int ((y2 &&& (255 : Int32)) <<< ((0 : Int32) &&& 31)))]))
  refine Gl.pre (fun _ k => own_ldB X2 hx hZ e2 V_a1 (j := (3 : Int32)) (i := 3) (by decide) (by decide) (Nat.lt_of_lt_of_eq (by decide : 3 < 4) rfl) (v := y3) rfl (g := (mkF m 48 #[.val (.ref a1), .val (.int (3 : Int32))] [(.int (3 : Int32)), (.ref a1), (.int ((y2 &&& (255 : Int32)) <<< ((0 : Int32) &&& 31)))])) rfl rfl (hb hby d16_48) _ k) ?_
  show Gl p.tables e below PP (T2.setTop (mkF m 49 #[.val (.ref a1), .val (.int (3 : Int32))] [(.int y3), (.int ((y2 &&& (255 : Int32)) <<< ((0 : Int32) &&& 31)))]))
  refine Gl.pre (fun _ k => XS.sipush X2.here hx rfl (hb hby d16_49) k) ?_
  show Gl p.tables e below PP (T2.setTop (mkF m 52 #[.val (.ref a1), .val (.int (3 : Int32))] [(.int (255 : Int32)), (.int y3), (.int ((y2 &&& (255 : Int32)) <<< ((0 : Int32) &&& 31)))]))
  refine Gl.pre (fun _ k => XS.iand X2.here hx rfl (hb hby d16_52) rfl k) ?_
  show Gl p.tables e below PP (T2.setTop (mkF m 53 #[.val (.ref a1), .val (.int (3 : Int32))] [(.int (y3 &&& (255 : Int32))), (.int ((y2 &&& (255 : Int32)) <<< ((0 : Int32) &&& 31)))]))
  obtain ⟨T3, X3, e3, st3⟩ := getS2 X2 hx hZ hown (host := "") (Or.inl (hw _ (List.mem_of_getElem? (i := 80) rfl))) Via.refl e2 (SLO.ext O_.2) (g := (mkF m 53 #[.val (.ref a1), .val (.int (3 : Int32))] [(.int (y3 &&& (255 : Int32))), (.int ((y2 &&& (255 : Int32)) <<< ((0 : Int32) &&& 31)))])) rfl (hb hby d16_53)
  refine Gl.pre (fun _ k => st3 _ k) ?_
  show Gl p.tables e below PP (T3.setTop (mkF m 56 #[.val (.ref a1), .val (.int (3 : Int32))] [(.int (8 : Int32)), (.int (y3 &&& (255 : Int32))), (.int ((y2 &&& (255 : Int32)) <<< ((0 : Int32) &&& 31)))]))
  refine Gl.pre (fun _ k => XS.ishl X3.here hx rfl (hb hby d16_56) rfl k) ?_
  show Gl p.tables e below PP (T3.setTop (mkF m 57 #[.val (.ref a1), .val (.int (3 : Int32))] [(.int ((y3 &&& (255 : Int32)) <<< ((8 : Int32) &&& 31))), (.int ((y2 &&& (255 : Int32)) <<< ((0 : Int32) &&& 31)))]))
  refine Gl.pre (fun _ k => XS.ior X3.here hx rfl (hb hby d16_57) rfl k) ?_
  show Gl p.tables e below PP (T3.setTop (mkF m 58 #[.val (.ref a1), .val (.int (3 : Int32))] [(.int (((y2 &&& (255 : Int32)) <<< ((0 : Int32) &&& 31)) ||| ((y3 &&& (255 : Int32)) <<< ((8 : Int32) &&& 31))))]))
  refine Gl.pre (fun _ k => XS.i2c X3.here hx rfl (hb hby d16_58) rfl k) ?_
  show Gl p.tables e below PP (T3.setTop (mkF m 59 #[.val (.ref a1), .val (.int (3 : Int32))] [(.int ((((y2 &&& (255 : Int32)) <<< ((0 : Int32) &&& 31)) ||| ((y3 &&& (255 : Int32)) <<< ((8 : Int32) &&& 31))).toUInt32.toUInt16.toUInt32.toInt32))]))
  rw [hPP]
  refine own_finN (Q := (Qgc2_1 Z a1 y0 y1 y2 y3 h0 n0)) X3 hx hlk Bd.returns (t := .char) (by simp) rfl (hb hby d16_59) ?_ (by decide) (by decide)
  show Qgc2_1 Z a1 y0 y1 y2 y3 h0 n0 _ T3.heap _
  rw [e3]
  exact ⟨rfl, N0, rfl⟩
theorem ef_cf2_2 (m : MethodId) (a1 : Addr) (ys : List Int32) : entryFrame m #[(.ref a1), (.int (2 : Int32))] 2 = mkF m 0 #[.val (.ref a1), .val (.int (2 : Int32))] [] := by first | (simp [entryFrame, mkF, argsToLocals, Value.category]; done) | rfl
def Qcf2_2 (Z : State) (a1 : Addr) (ys : List Int32) (h0 : Heap) (n0 : Nat) (v : Option Value) (h : Heap) (L : List Loc) : Prop := v = some (.int (0 : Int32)) ∧ Fr n0 L ∧ h = h0
set_option maxRecDepth 65536 in
set_option maxHeartbeats 40000000 in
theorem rmcf2_2 (l : Launch) (Z : State) (a0 : Array Value) (hw : ∀ d ∈ tables_1, d.before a0 Z = true) (ws : List Jvm.Cond) (a1 : Addr) (ys : List Int32) (h0 : Heap) (n0 : Nat) (Z0 : n0 ≤ h0.size) (V_a1 : Bal Z h0 a1 .byte ys) (hlen : ys.length = 2) :
    MetFree l (⟨"java/lang/StringUTF16", "coderFromArrayLen", "([BI)B"⟩ : MethodName) (head1 (Jvm.Cond.code (⟨"java/lang/StringUTF16", "coderFromArrayLen", "([BI)B"⟩ : MethodName) jdk_52_method_15_code 2 (some .byte) :: ws) ({ frames := 0, cells := 0, slots := 0, locals := 0 } : Room)) (fun a U => a = #[(.ref a1), (.int (2 : Int32))] ∧ Z.Warmed39 U.vm ∧ U.heap = h0) (fun _ _ _ _ _ => True) (fun _ U o U' => ∃ v L, o = .returned v ∧ Qcf2_2 Z a1 ys h0 n0 v U'.heap L ∧ FrameEnd U o U' L ({ frames := 0, cells := 0, slots := 0, locals := 0 } : Room).cells ({ frames := 0, cells := 0, slots := 0, locals := 0 } : Room).slots) := by
  refine MetFree.of_bodySF (plainFor_of_name pn_11) hisR ?_
  intro p e s m args below meth c s₁ Bd hml0 hP hK
  obtain ⟨rfl, hZ, hh⟩ := hP
  have hx := Bd.exec
  have hby := Bd.bytes
  have hlk : meth.locks = false := BodyLoose.notSynchronized Bd
  have hml : c.maxLocals = 2 := hml0
  have hown : s.vm.findClass "java/lang/StringUTF16" = some m.cls := findClass_of_methodNamed Bd.named
  have hnm := (name_of_methodNamed Bd.named Bd.method).1
  have X0 : Stand p l e ({ frames := 0, cells := 0, slots := 0, locals := 0 } : Room) s m #[(.ref a1), (.int (2 : Int32))] below meth c s₁ [] 0 0 := Stand.of_body Bd
  have e0 : s₁.heap = h0 := by rw [← hh, Bd.state]; rfl
  have N0 := Fr.nil n0
  show Gl p.tables e below (fun (o : Outcome) (U' : State) => ∃ v L, o = .returned v ∧ Qcf2_2 Z a1 ys h0 n0 v U'.heap L ∧ FrameEnd s o U' L ({ frames := 0, cells := 0, slots := 0, locals := 0 } : Room).cells ({ frames := 0, cells := 0, slots := 0, locals := 0 } : Room).slots) _
  refine Gl.pre (fun t k => castTop (ef_cf2_2 m a1 ys) k) ?_
  obtain ⟨PP, hPP⟩ : ∃ P : Outcome → State → Prop, P = (fun (o : Outcome) (U' : State) => ∃ v L, o = .returned v ∧ Qcf2_2 Z a1 ys h0 n0 v U'.heap L ∧ FrameEnd s o U' L ({ frames := 0, cells := 0, slots := 0, locals := 0 } : Room).cells ({ frames := 0, cells := 0, slots := 0, locals := 0 } : Room).slots) := ⟨_, rfl⟩
  rw [← hPP]
  show Gl p.tables e below PP (s₁.setTop (mkF m 0 #[.val (.ref a1), .val (.int (2 : Int32))] []))
  refine Gl.pre (fun _ k => XS.iloadN X0.here hx rfl (hb hby d11_0) rfl k) ?_
  show Gl p.tables e below PP (s₁.setTop (mkF m 1 #[.val (.ref a1), .val (.int (2 : Int32))] [(.int (2 : Int32))]))
  refine Gl.pre (fun _ k => XS.aloadN X0.here hx rfl (hb hby d11_1) rfl rfl k) ?_
  show Gl p.tables e below PP (s₁.setTop (mkF m 2 #[.val (.ref a1), .val (.int (2 : Int32))] [(.ref a1), (.int (2 : Int32))]))
  refine Gl.pre (fun _ k => own_len X0 hx hZ e0 V_a1 (v := (2 : Int32)) (by rw [hlen]; rfl) (g := (mkF m 2 #[.val (.ref a1), .val (.int (2 : Int32))] [(.ref a1), (.int (2 : Int32))])) rfl rfl (hb hby d11_2) _ k) ?_
  show Gl p.tables e below PP (s₁.setTop (mkF m 3 #[.val (.ref a1), .val (.int (2 : Int32))] [(.int (2 : Int32)), (.int (2 : Int32))]))
  refine Gl.pre (fun _ k => XS.isub X0.here hx rfl (hb hby d11_3) rfl k) ?_
  show Gl p.tables e below PP (s₁.setTop (mkF m 4 #[.val (.ref a1), .val (.int (2 : Int32))] [(.int ((2 : Int32) - (2 : Int32)))]))
  rw [show ((2 : Int32) - (2 : Int32)) = (0 : Int32) by decide]
  show Gl p.tables e below PP (s₁.setTop (mkF m 4 #[.val (.ref a1), .val (.int (2 : Int32))] [(.int (0 : Int32))]))
  refine Gl.pre (fun _ k => XS.bipush X0.here hx rfl (hb hby d11_4) k) ?_
  show Gl p.tables e below PP (s₁.setTop (mkF m 6 #[.val (.ref a1), .val (.int (2 : Int32))] [(.int (31 : Int32)), (.int (0 : Int32))]))
  refine Gl.pre (fun _ k => XS.iushr X0.here hx rfl (hb hby d11_6) rfl k) ?_
  show Gl p.tables e below PP (s₁.setTop (mkF m 7 #[.val (.ref a1), .val (.int (2 : Int32))] [(.int (own_ushr (0 : Int32) (31 : Int32)))]))
  rw [show (own_ushr (0 : Int32) (31 : Int32)) = (0 : Int32) by decide]
  show Gl p.tables e below PP (s₁.setTop (mkF m 7 #[.val (.ref a1), .val (.int (2 : Int32))] [(.int (0 : Int32))]))
  refine Gl.pre (fun _ k => XS.i2b X0.here hx rfl (hb hby d11_7) rfl k) ?_
  show Gl p.tables e below PP (s₁.setTop (mkF m 8 #[.val (.ref a1), .val (.int (2 : Int32))] [(.int ((0 : Int32).toInt8.toInt32))]))
  rw [show ((0 : Int32).toInt8.toInt32) = (0 : Int32) by decide]
  show Gl p.tables e below PP (s₁.setTop (mkF m 8 #[.val (.ref a1), .val (.int (2 : Int32))] [(.int (0 : Int32))]))
  rw [hPP]
  refine own_finN (Q := (Qcf2_2 Z a1 ys h0 n0)) X0 hx hlk Bd.returns (t := .byte) (z' := (0 : Int32)) (by simp) (by decide) (hb hby d11_8) ?_ (by decide) (by decide)
  show Qcf2_2 Z a1 ys h0 n0 _ s₁.heap _
  rw [e0]
  exact ⟨rfl, N0, rfl⟩
theorem ef_cf2_4 (m : MethodId) (a1 : Addr) (ys : List Int32) : entryFrame m #[(.ref a1), (.int (2 : Int32))] 2 = mkF m 0 #[.val (.ref a1), .val (.int (2 : Int32))] [] := by first | (simp [entryFrame, mkF, argsToLocals, Value.category]; done) | rfl
def Qcf2_4 (Z : State) (a1 : Addr) (ys : List Int32) (h0 : Heap) (n0 : Nat) (v : Option Value) (h : Heap) (L : List Loc) : Prop := v = some (.int (1 : Int32)) ∧ Fr n0 L ∧ h = h0
set_option maxRecDepth 65536 in
set_option maxHeartbeats 40000000 in
theorem rmcf2_4 (l : Launch) (Z : State) (a0 : Array Value) (hw : ∀ d ∈ tables_1, d.before a0 Z = true) (ws : List Jvm.Cond) (a1 : Addr) (ys : List Int32) (h0 : Heap) (n0 : Nat) (Z0 : n0 ≤ h0.size) (V_a1 : Bal Z h0 a1 .byte ys) (hlen : ys.length = 4) :
    MetFree l (⟨"java/lang/StringUTF16", "coderFromArrayLen", "([BI)B"⟩ : MethodName) (head1 (Jvm.Cond.code (⟨"java/lang/StringUTF16", "coderFromArrayLen", "([BI)B"⟩ : MethodName) jdk_52_method_15_code 2 (some .byte) :: ws) ({ frames := 0, cells := 0, slots := 0, locals := 0 } : Room)) (fun a U => a = #[(.ref a1), (.int (2 : Int32))] ∧ Z.Warmed39 U.vm ∧ U.heap = h0) (fun _ _ _ _ _ => True) (fun _ U o U' => ∃ v L, o = .returned v ∧ Qcf2_4 Z a1 ys h0 n0 v U'.heap L ∧ FrameEnd U o U' L ({ frames := 0, cells := 0, slots := 0, locals := 0 } : Room).cells ({ frames := 0, cells := 0, slots := 0, locals := 0 } : Room).slots) := by
  refine MetFree.of_bodySF (plainFor_of_name pn_11) hisR ?_
  intro p e s m args below meth c s₁ Bd hml0 hP hK
  obtain ⟨rfl, hZ, hh⟩ := hP
  have hx := Bd.exec
  have hby := Bd.bytes
  have hlk : meth.locks = false := BodyLoose.notSynchronized Bd
  have hml : c.maxLocals = 2 := hml0
  have hown : s.vm.findClass "java/lang/StringUTF16" = some m.cls := findClass_of_methodNamed Bd.named
  have hnm := (name_of_methodNamed Bd.named Bd.method).1
  have X0 : Stand p l e ({ frames := 0, cells := 0, slots := 0, locals := 0 } : Room) s m #[(.ref a1), (.int (2 : Int32))] below meth c s₁ [] 0 0 := Stand.of_body Bd
  have e0 : s₁.heap = h0 := by rw [← hh, Bd.state]; rfl
  have N0 := Fr.nil n0
  show Gl p.tables e below (fun (o : Outcome) (U' : State) => ∃ v L, o = .returned v ∧ Qcf2_4 Z a1 ys h0 n0 v U'.heap L ∧ FrameEnd s o U' L ({ frames := 0, cells := 0, slots := 0, locals := 0 } : Room).cells ({ frames := 0, cells := 0, slots := 0, locals := 0 } : Room).slots) _
  refine Gl.pre (fun t k => castTop (ef_cf2_4 m a1 ys) k) ?_
  obtain ⟨PP, hPP⟩ : ∃ P : Outcome → State → Prop, P = (fun (o : Outcome) (U' : State) => ∃ v L, o = .returned v ∧ Qcf2_4 Z a1 ys h0 n0 v U'.heap L ∧ FrameEnd s o U' L ({ frames := 0, cells := 0, slots := 0, locals := 0 } : Room).cells ({ frames := 0, cells := 0, slots := 0, locals := 0 } : Room).slots) := ⟨_, rfl⟩
  rw [← hPP]
  show Gl p.tables e below PP (s₁.setTop (mkF m 0 #[.val (.ref a1), .val (.int (2 : Int32))] []))
  refine Gl.pre (fun _ k => XS.iloadN X0.here hx rfl (hb hby d11_0) rfl k) ?_
  show Gl p.tables e below PP (s₁.setTop (mkF m 1 #[.val (.ref a1), .val (.int (2 : Int32))] [(.int (2 : Int32))]))
  refine Gl.pre (fun _ k => XS.aloadN X0.here hx rfl (hb hby d11_1) rfl rfl k) ?_
  show Gl p.tables e below PP (s₁.setTop (mkF m 2 #[.val (.ref a1), .val (.int (2 : Int32))] [(.ref a1), (.int (2 : Int32))]))
  refine Gl.pre (fun _ k => own_len X0 hx hZ e0 V_a1 (v := (4 : Int32)) (by rw [hlen]; rfl) (g := (mkF m 2 #[.val (.ref a1), .val (.int (2 : Int32))] [(.ref a1), (.int (2 : Int32))])) rfl rfl (hb hby d11_2) _ k) ?_
  show Gl p.tables e below PP (s₁.setTop (mkF m 3 #[.val (.ref a1), .val (.int (2 : Int32))] [(.int (4 : Int32)), (.int (2 : Int32))]))
  refine Gl.pre (fun _ k => XS.isub X0.here hx rfl (hb hby d11_3) rfl k) ?_
  show Gl p.tables e below PP (s₁.setTop (mkF m 4 #[.val (.ref a1), .val (.int (2 : Int32))] [(.int ((2 : Int32) - (4 : Int32)))]))
  rw [show ((2 : Int32) - (4 : Int32)) = (-2 : Int32) by decide]
  show Gl p.tables e below PP (s₁.setTop (mkF m 4 #[.val (.ref a1), .val (.int (2 : Int32))] [(.int (-2 : Int32))]))
  refine Gl.pre (fun _ k => XS.bipush X0.here hx rfl (hb hby d11_4) k) ?_
  show Gl p.tables e below PP (s₁.setTop (mkF m 6 #[.val (.ref a1), .val (.int (2 : Int32))] [(.int (31 : Int32)), (.int (-2 : Int32))]))
  refine Gl.pre (fun _ k => XS.iushr X0.here hx rfl (hb hby d11_6) rfl k) ?_
  show Gl p.tables e below PP (s₁.setTop (mkF m 7 #[.val (.ref a1), .val (.int (2 : Int32))] [(.int (own_ushr (-2 : Int32) (31 : Int32)))]))
  rw [show (own_ushr (-2 : Int32) (31 : Int32)) = (1 : Int32) by decide]
  show Gl p.tables e below PP (s₁.setTop (mkF m 7 #[.val (.ref a1), .val (.int (2 : Int32))] [(.int (1 : Int32))]))
  refine Gl.pre (fun _ k => XS.i2b X0.here hx rfl (hb hby d11_7) rfl k) ?_
  show Gl p.tables e below PP (s₁.setTop (mkF m 8 #[.val (.ref a1), .val (.int (2 : Int32))] [(.int ((1 : Int32).toInt8.toInt32))]))
  rw [show ((1 : Int32).toInt8.toInt32) = (1 : Int32) by decide]
  show Gl p.tables e below PP (s₁.setTop (mkF m 8 #[.val (.ref a1), .val (.int (2 : Int32))] [(.int (1 : Int32))]))
  rw [hPP]
  refine own_finN (Q := (Qcf2_4 Z a1 ys h0 n0)) X0 hx hlk Bd.returns (t := .byte) (z' := (1 : Int32)) (by simp) (by decide) (hb hby d11_8) ?_ (by decide) (by decide)
  show Qcf2_4 Z a1 ys h0 n0 _ s₁.heap _
  rw [e0]
  exact ⟨rfl, N0, rfl⟩
theorem ef_cm2 (m : MethodId) (a1 : Addr) (c0 : Int32) (c1 : Int32) : entryFrame m #[(.ref a1), (.int (0 : Int32)), (.int (2 : Int32))] 6 = mkF m 0 #[.val (.ref a1), .val (.int (0 : Int32)), .val (.int (2 : Int32)), .unset, .unset, .unset] [] := by first | (simp [entryFrame, mkF, argsToLocals, Value.category]; done) | rfl
def Qcm2 (Z : State) (a1 : Addr) (c0 : Int32) (c1 : Int32) (h0 : Heap) (n0 : Nat) (v : Option Value) (h : Heap) (L : List Loc) : Prop := ∃ (b : Addr) (ys : List Int32), v = some (.ref b) ∧ Fr n0 L ∧ h0.size ≤ b ∧ Keep h0 h [] ∧ (ys.length = 2 ∨ ys.length = 4) ∧ Bal Z h b .byte ys
set_option maxRecDepth 65536 in
set_option maxHeartbeats 40000000 in
theorem rmcm2 (l : Launch) (Z : State) (a0 : Array Value) (hw : ∀ d ∈ tables_1, d.before a0 Z = true) (ws : List Jvm.Cond) (a1 : Addr) (c0 : Int32) (c1 : Int32) (h0 : Heap) (n0 : Nat) (Z0 : n0 ≤ h0.size) (V_a1 : Bal Z h0 a1 .char [c0, c1]) (hr0 : 0 ≤ c0.toInt ∧ c0.toInt < 65536) (hr1 : 0 ≤ c1.toInt ∧ c1.toInt < 65536) (SAD : Sta Z Z.heap "java/lang/StringUTF16" "$assertionsDisabled" "Z" (.int (1 : Int32))) (SHI : Sta Z Z.heap "java/lang/StringUTF16" "HI_BYTE_SHIFT" "I" (.int (0 : Int32))) (SLO : Sta Z Z.heap "java/lang/StringUTF16" "LO_BYTE_SHIFT" "I" (.int (8 : Int32))) (O_ : Old Z n0 h0) :
    MetFree l (⟨"java/lang/StringUTF16", "compress", "([CII)[B"⟩ : MethodName) (head1 (Jvm.Cond.code (⟨"java/lang/StringUTF16", "compress", "([CII)[B"⟩ : MethodName) jdk_52_method_16_code 6 (some (.array .byte)) :: ws) ({ frames := 3, cells := 2, slots := 6, locals := 40 } : Room)) (fun a U => a = #[(.ref a1), (.int (0 : Int32)), (.int (2 : Int32))] ∧ Z.Warmed39 U.vm ∧ U.heap = h0) (fun _ _ _ _ _ => True) (fun _ U o U' => ∃ v L, o = .returned v ∧ Qcm2 Z a1 c0 c1 h0 n0 v U'.heap L ∧ FrameEnd U o U' L ({ frames := 3, cells := 2, slots := 6, locals := 40 } : Room).cells ({ frames := 3, cells := 2, slots := 6, locals := 40 } : Room).slots) := by
  refine MetFree.of_bodySF (plainFor_of_name pn_9) hisR ?_
  intro p e s m args below meth c s₁ Bd hml0 hP hK
  obtain ⟨rfl, hZ, hh⟩ := hP
  have hx := Bd.exec
  have hby := Bd.bytes
  have hlk : meth.locks = false := BodyLoose.notSynchronized Bd
  have hml : c.maxLocals = 6 := hml0
  have hown : s.vm.findClass "java/lang/StringUTF16" = some m.cls := findClass_of_methodNamed Bd.named
  have hnm := (name_of_methodNamed Bd.named Bd.method).1
  have X0 : Stand p l e ({ frames := 3, cells := 2, slots := 6, locals := 40 } : Room) s m #[(.ref a1), (.int (0 : Int32)), (.int (2 : Int32))] below meth c s₁ [] 0 0 := Stand.of_body Bd
  have e0 : s₁.heap = h0 := by rw [← hh, Bd.state]; rfl
  have N0 := Fr.nil n0
  show Gl p.tables e below (fun (o : Outcome) (U' : State) => ∃ v L, o = .returned v ∧ Qcm2 Z a1 c0 c1 h0 n0 v U'.heap L ∧ FrameEnd s o U' L ({ frames := 3, cells := 2, slots := 6, locals := 40 } : Room).cells ({ frames := 3, cells := 2, slots := 6, locals := 40 } : Room).slots) _
  refine Gl.pre (fun t k => castTop (ef_cm2 m a1 c0 c1) k) ?_
  obtain ⟨PP, hPP⟩ : ∃ P : Outcome → State → Prop, P = (fun (o : Outcome) (U' : State) => ∃ v L, o = .returned v ∧ Qcm2 Z a1 c0 c1 h0 n0 v U'.heap L ∧ FrameEnd s o U' L ({ frames := 3, cells := 2, slots := 6, locals := 40 } : Room).cells ({ frames := 3, cells := 2, slots := 6, locals := 40 } : Room).slots) := ⟨_, rfl⟩
  rw [← hPP]
  have K0 : Keep h0 h0 [] := Keep.refl h0 _
  show Gl p.tables e below PP (s₁.setTop (mkF m 0 #[.val (.ref a1), .val (.int (0 : Int32)), .val (.int (2 : Int32)), .unset, .unset, .unset] []))
  refine Gl.pre (fun _ k => XS.iloadN X0.here hx rfl (hb hby d9_0) rfl k) ?_
  show Gl p.tables e below PP (s₁.setTop (mkF m 1 #[.val (.ref a1), .val (.int (0 : Int32)), .val (.int (2 : Int32)), .unset, .unset, .unset] [(.int (2 : Int32))]))
  obtain ⟨T1, h1, k1, X1, e1, E1, A1, st1⟩ := newP X0 hx hZ (hw _ (List.mem_of_getElem? (i := 19) rfl)) e0 (g := (mkF m 1 #[.val (.ref a1), .val (.int (0 : Int32)), .val (.int (2 : Int32)), .unset, .unset, .unset] [(.int (2 : Int32))])) rfl (hb hby d9_1) rfl (by decide) (cap := 2) (by decide) (by decide) (by decide) (by decide)
  obtain ⟨b1, g1⟩ : ∃ z, z = h0.size := ⟨_, rfl⟩
  rw [← g1] at A1 st1
  refine Gl.pre (fun _ k => st1 _ k) ?_
  have own_ne_a1_b1 : a1 ≠ b1 := by have q := V_a1.lt; rw [g1]; exact Nat.ne_of_lt q
  have own_ne_b1_a1 : b1 ≠ a1 := own_ne_a1_b1.symm
  have g_b1 : n0 ≤ b1 := Nat.le_trans Z0 (Nat.le_of_eq g1.symm)
  have sz_b1 : h0.size ≤ b1 := Nat.le_trans K0.1 (Nat.le_of_eq g1.symm)
  have V_a1 := V_a1.ext E1
  have O_ := O_.ext E1
  have Z1 : n0 ≤ h1.size := Nat.le_trans Z0 E1.1
  have K1 := K0.ext E1
  have V_b1 : Bal Z h1 b1 .byte [(0 : Int32), (0 : Int32)] := Bal.new (ty := .byte) A1 (n := 2) (by decide) rfl
  show Gl p.tables e below PP (T1.setTop (mkF m 3 #[.val (.ref a1), .val (.int (0 : Int32)), .val (.int (2 : Int32)), .unset, .unset, .unset] [(.ref b1)]))
  refine Gl.pre (fun _ k => XS.astoreN X1.here hx rfl (hb hby d9_3) rfl rfl (l' := #[.val (.ref a1), .val (.int (0 : Int32)), .val (.int (2 : Int32)), .val (.ref b1), .unset, .unset]) rfl k) ?_
  show Gl p.tables e below PP (T1.setTop (mkF m 4 #[.val (.ref a1), .val (.int (0 : Int32)), .val (.int (2 : Int32)), .val (.ref b1), .unset, .unset] []))
  refine Gl.pre (fun _ k => XS.aloadN X1.here hx rfl (hb hby d9_4) rfl rfl k) ?_
  show Gl p.tables e below PP (T1.setTop (mkF m 5 #[.val (.ref a1), .val (.int (0 : Int32)), .val (.int (2 : Int32)), .val (.ref b1), .unset, .unset] [(.ref a1)]))
  refine Gl.pre (fun _ k => XS.iloadN X1.here hx rfl (hb hby d9_5) rfl k) ?_
  show Gl p.tables e below PP (T1.setTop (mkF m 6 #[.val (.ref a1), .val (.int (0 : Int32)), .val (.int (2 : Int32)), .val (.ref b1), .unset, .unset] [(.int (0 : Int32)), (.ref a1)]))
  refine Gl.pre (fun _ k => XS.aloadN X1.here hx rfl (hb hby d9_6) rfl rfl k) ?_
  show Gl p.tables e below PP (T1.setTop (mkF m 7 #[.val (.ref a1), .val (.int (0 : Int32)), .val (.int (2 : Int32)), .val (.ref b1), .unset, .unset] [(.ref b1), (.int (0 : Int32)), (.ref a1)]))
  refine Gl.pre (fun _ k => XS.iconst X1.here hx rfl (hb hby d9_7) k) ?_
  show Gl p.tables e below PP (T1.setTop (mkF m 8 #[.val (.ref a1), .val (.int (0 : Int32)), .val (.int (2 : Int32)), .val (.ref b1), .unset, .unset] [(.int (0 : Int32)), (.ref b1), (.int (0 : Int32)), (.ref a1)]))
  refine Gl.pre (fun _ k => XS.iloadN X1.here hx rfl (hb hby d9_8) rfl k) ?_
  show Gl p.tables e below PP (T1.setTop (mkF m 9 #[.val (.ref a1), .val (.int (0 : Int32)), .val (.int (2 : Int32)), .val (.ref b1), .unset, .unset] [(.int (2 : Int32)), (.int (0 : Int32)), (.ref b1), (.int (0 : Int32)), (.ref a1)]))
  by_cases hc0 : (255 : Int32) < c0
  · show Gl p.tables e below PP (T1.setTop (mkF m 9 #[.val (.ref a1), .val (.int (0 : Int32)), .val (.int (2 : Int32)), .val (.ref b1), .unset, .unset] [(.int (2 : Int32)), (.int (0 : Int32)), (.ref b1), (.int (0 : Int32)), (.ref a1)]))
    obtain ⟨_, _, ⟨T2, L2, k2, n2⟩, -, X2, ⟨Lc2, hQ2, l2, y2, z2⟩, st2⟩ := Jvm.LawKit.callS X1 hx (y := (⟨"java/lang/StringUTF16", "compress", "([CI[BII)I"⟩ : MethodName)) hown (mvT hZ (hw _ (List.mem_of_getElem? (i := 59) rfl))) (mvT hZ (hw _ (List.mem_of_getElem? (i := 60) rfl))) (mvT hZ (hw _ (List.mem_of_getElem? (i := 57) rfl))) (mvT hZ (hw _ (List.mem_of_getElem? (i := 61) rfl))) (by decide) (backOf (W := 0) (rmcz2_0 l Z a0 hw [] a1 b1 c0 c1 h1 n0 Z1 V_a1 V_b1 g_b1 own_ne_a1_b1 own_ne_b1_a1 hc0) hZ (hw _ (List.mem_of_getElem? (i := 61) rfl)) (hw _ (List.mem_of_getElem? (i := 57) rfl)) (by decide) (by decide)) (g := (mkF m 9 #[.val (.ref a1), .val (.int (0 : Int32)), .val (.int (2 : Int32)), .val (.ref b1), .unset, .unset] [(.int (2 : Int32)), (.int (0 : Int32)), (.ref b1), (.int (0 : Int32)), (.ref a1)])) rfl (by rw [hml]; rfl) (argsL := [(.ref a1), (.int (0 : Int32)), (.ref b1), (.int (0 : Int32)), (.int (2 : Int32))]) (rest := []) (lenOf pd_3 rfl) rfl (by show 2 * 0 + _ ≤ _; exact Nat.le_of_eq rfl) (hb hby d9_9) (fun _ _ => ⟨rfl, e1, (by decide : 1 + 0 ≤ _), (by decide : 2 + 0 ≤ _)⟩)
    dsimp only [Pt.U, Pt.locs, Pt.cells, Pt.slots] at X2 l2 y2 z2 st2 hQ2
    subst l2 y2 z2
    obtain ⟨rfl, N2q, K2, ys2, hys2, V2q⟩ := hQ2
    have N2 := Fr.app N0 N2q
    refine Gl.pre (fun _ k => st2 _ k) ?_
    have V_a1 := V_a1.keep K2 (ninS (own_ne_a1_b1) nin0)
    have O_ := O_.keep K2 (allS g_b1 all0)
    have Z2 : n0 ≤ T2.heap.size := Nat.le_trans Z1 K2.1
    have K2k := K1.trans K2 (allS (Or.inr sz_b1) all0)
    have V_b1 := V2q
    show Gl p.tables e below PP (T2.setTop (mkF m 12 #[.val (.ref a1), .val (.int (0 : Int32)), .val (.int (2 : Int32)), .val (.ref b1), .unset, .unset] [(.int (0 : Int32))]))
    refine Gl.pre (fun _ k => XS.istore X2.here hx rfl (hb hby d9_12) rfl (l' := #[.val (.ref a1), .val (.int (0 : Int32)), .val (.int (2 : Int32)), .val (.ref b1), .val (.int (0 : Int32)), .unset]) rfl k) ?_
    show Gl p.tables e below PP (T2.setTop (mkF m 14 #[.val (.ref a1), .val (.int (0 : Int32)), .val (.int (2 : Int32)), .val (.ref b1), .val (.int (0 : Int32)), .unset] []))
    refine Gl.pre (fun _ k => XS.iload X2.here hx rfl (hb hby d9_14) rfl k) ?_
    show Gl p.tables e below PP (T2.setTop (mkF m 16 #[.val (.ref a1), .val (.int (0 : Int32)), .val (.int (2 : Int32)), .val (.ref b1), .val (.int (0 : Int32)), .unset] [(.int (0 : Int32))]))
    refine Gl.pre (fun _ k => XS.iloadN X2.here hx rfl (hb hby d9_16) rfl k) ?_
    show Gl p.tables e below PP (T2.setTop (mkF m 17 #[.val (.ref a1), .val (.int (0 : Int32)), .val (.int (2 : Int32)), .val (.ref b1), .val (.int (0 : Int32)), .unset] [(.int (2 : Int32)), (.int (0 : Int32))]))
    refine Gl.pre (fun _ k => XS.icmpNo X2.here hx rfl (hb hby d9_17) rfl (feq (show ¬ ((0 : Int32) = (2 : Int32)) from (by decide))).1 k) ?_
    show Gl p.tables e below PP (T2.setTop (mkF m 20 #[.val (.ref a1), .val (.int (0 : Int32)), .val (.int (2 : Int32)), .val (.ref b1), .val (.int (0 : Int32)), .unset] []))
    refine Gl.pre (fun _ k => XS.aloadN X2.here hx rfl (hb hby d9_20) rfl rfl k) ?_
    show Gl p.tables e below PP (T2.setTop (mkF m 21 #[.val (.ref a1), .val (.int (0 : Int32)), .val (.int (2 : Int32)), .val (.ref b1), .val (.int (0 : Int32)), .unset] [(.ref a1)]))
    refine Gl.pre (fun _ k => XS.iloadN X2.here hx rfl (hb hby d9_21) rfl k) ?_
    show Gl p.tables e below PP (T2.setTop (mkF m 22 #[.val (.ref a1), .val (.int (0 : Int32)), .val (.int (2 : Int32)), .val (.ref b1), .val (.int (0 : Int32)), .unset] [(.int (0 : Int32)), (.ref a1)]))
    refine Gl.pre (fun _ k => XS.iloadN X2.here hx rfl (hb hby d9_22) rfl k) ?_
    show Gl p.tables e below PP (T2.setTop (mkF m 23 #[.val (.ref a1), .val (.int (0 : Int32)), .val (.int (2 : Int32)), .val (.ref b1), .val (.int (0 : Int32)), .unset] [(.int (2 : Int32)), (.int (0 : Int32)), (.ref a1)]))
    obtain ⟨_, _, ⟨T3, L3, k3, n3⟩, -, X3, ⟨Lc3, hQ3, l3, y3, z3⟩, st3⟩ := Jvm.LawKit.callS X2 hx (y := (⟨"java/lang/StringUTF16", "toBytes", "([CII)[B"⟩ : MethodName)) hown (mvT hZ (hw _ (List.mem_of_getElem? (i := 65) rfl))) (mvT hZ (hw _ (List.mem_of_getElem? (i := 66) rfl))) (mvT hZ (hw _ (List.mem_of_getElem? (i := 57) rfl))) (mvT hZ (hw _ (List.mem_of_getElem? (i := 67) rfl))) (by decide) (backOf (W := 0) (rmtb2 l Z a0 hw [] a1 c0 c1 T2.heap n0 Z2 V_a1 SAD SHI SLO O_) hZ (hw _ (List.mem_of_getElem? (i := 67) rfl)) (hw _ (List.mem_of_getElem? (i := 57) rfl)) (by decide) (by decide)) (g := (mkF m 23 #[.val (.ref a1), .val (.int (0 : Int32)), .val (.int (2 : Int32)), .val (.ref b1), .val (.int (0 : Int32)), .unset] [(.int (2 : Int32)), (.int (0 : Int32)), (.ref a1)])) rfl (by rw [hml]; rfl) (argsL := [(.ref a1), (.int (0 : Int32)), (.int (2 : Int32))]) (rest := []) (lenOf pd_4 rfl) rfl (by show 2 * 0 + _ ≤ _; exact Nat.le_of_eq rfl) (hb hby d9_23) (fun _ _ => ⟨rfl, rfl, (by decide : 1 + 1 ≤ _), (by decide : 2 + 4 ≤ _)⟩)
    dsimp only [Pt.U, Pt.locs, Pt.cells, Pt.slots] at X3 l3 y3 z3 st3 hQ3
    subst l3 y3 z3
    obtain ⟨bt3, rfl, N3q, hz3, K3, V3q⟩ := hQ3
    have N3 := Fr.app N2 N3q
    refine Gl.pre (fun _ k => st3 _ k) ?_
    have own_ne_a1_bt3 : a1 ≠ bt3 := Nat.ne_of_lt (Nat.lt_of_lt_of_le V_a1.lt hz3)
    have own_ne_bt3_a1 := own_ne_a1_bt3.symm
    have own_ne_b1_bt3 : b1 ≠ bt3 := Nat.ne_of_lt (Nat.lt_of_lt_of_le V_b1.lt hz3)
    have own_ne_bt3_b1 := own_ne_b1_bt3.symm
    have g_bt3 : n0 ≤ bt3 := Nat.le_trans Z2 hz3
    have sz_bt3 : h0.size ≤ bt3 := Nat.le_trans K2k.1 hz3
    have V_a1 := V_a1.keep K3 nin0
    have O_ := O_.keep K3 all0
    have V_b1 := V_b1.keep K3 nin0
    have Z3 : n0 ≤ T3.heap.size := Nat.le_trans Z2 K3.1
    have K3k := K2k.trans K3 all0
    have V_bt3 := V3q
    show Gl p.tables e below PP (T3.setTop (mkF m 26 #[.val (.ref a1), .val (.int (0 : Int32)), .val (.int (2 : Int32)), .val (.ref b1), .val (.int (0 : Int32)), .unset] [(.ref bt3)]))
    refine Gl.pre (fun _ k => XS.astore X3.here hx rfl (hb hby d9_26) rfl rfl (l' := #[.val (.ref a1), .val (.int (0 : Int32)), .val (.int (2 : Int32)), .val (.ref b1), .val (.int (0 : Int32)), .val (.ref bt3)]) rfl k) ?_
    show Gl p.tables e below PP (T3.setTop (mkF m 28 #[.val (.ref a1), .val (.int (0 : Int32)), .val (.int (2 : Int32)), .val (.ref b1), .val (.int (0 : Int32)), .val (.ref bt3)] []))
    refine Gl.pre (fun _ k => XS.aload X3.here hx rfl (hb hby d9_28) rfl rfl k) ?_
    show Gl p.tables e below PP (T3.setTop (mkF m 30 #[.val (.ref a1), .val (.int (0 : Int32)), .val (.int (2 : Int32)), .val (.ref b1), .val (.int (0 : Int32)), .val (.ref bt3)] [(.ref bt3)]))
    refine Gl.pre (fun _ k => XS.iload X3.here hx rfl (hb hby d9_30) rfl k) ?_
    show Gl p.tables e below PP (T3.setTop (mkF m 32 #[.val (.ref a1), .val (.int (0 : Int32)), .val (.int (2 : Int32)), .val (.ref b1), .val (.int (0 : Int32)), .val (.ref bt3)] [(.int (0 : Int32)), (.ref bt3)]))
    obtain ⟨_, _, ⟨T4, L4, k4, n4⟩, -, X4, ⟨Lc4, hQ4, l4, y4, z4⟩, st4⟩ := Jvm.LawKit.callS X3 hx (y := (⟨"java/lang/StringUTF16", "getChar", "([BI)C"⟩ : MethodName)) hown (mvT hZ (hw _ (List.mem_of_getElem? (i := 81) rfl))) (mvT hZ (hw _ (List.mem_of_getElem? (i := 82) rfl))) (mvT hZ (hw _ (List.mem_of_getElem? (i := 57) rfl))) (mvT hZ (hw _ (List.mem_of_getElem? (i := 83) rfl))) (by decide) (backOf (W := 0) (rmgc2_0 l Z a0 hw [] bt3 (nar .byte ((c0 >>> ((0 : Int32) &&& 31)).toInt8.toInt32)) (nar .byte ((c0 >>> ((8 : Int32) &&& 31)).toInt8.toInt32)) (nar .byte ((c1 >>> ((0 : Int32) &&& 31)).toInt8.toInt32)) (nar .byte ((c1 >>> ((8 : Int32) &&& 31)).toInt8.toInt32)) T3.heap n0 Z3 V_bt3 SAD SHI SLO O_) hZ (hw _ (List.mem_of_getElem? (i := 83) rfl)) (hw _ (List.mem_of_getElem? (i := 57) rfl)) (by decide) (by decide)) (g := (mkF m 32 #[.val (.ref a1), .val (.int (0 : Int32)), .val (.int (2 : Int32)), .val (.ref b1), .val (.int (0 : Int32)), .val (.ref bt3)] [(.int (0 : Int32)), (.ref bt3)])) rfl (by rw [hml]; rfl) (argsL := [(.ref bt3), (.int (0 : Int32))]) (rest := []) (lenOf pd_5 rfl) rfl (by show 2 * 0 + _ ≤ _; exact Nat.le_of_eq rfl) (hb hby d9_32) (fun _ _ => ⟨rfl, rfl, (by decide : 2 + 0 ≤ _), (by decide : 6 + 0 ≤ _)⟩)
    dsimp only [Pt.U, Pt.locs, Pt.cells, Pt.slots] at X4 l4 y4 z4 st4 hQ4
    subst l4 y4 z4
    obtain ⟨rfl, N4q, e4⟩ := hQ4
    have N4 := Fr.app N3 N4q
    refine Gl.pre (fun _ k => st4 _ k) ?_
    show Gl p.tables e below PP (T4.setTop (mkF m 35 #[.val (.ref a1), .val (.int (0 : Int32)), .val (.int (2 : Int32)), .val (.ref b1), .val (.int (0 : Int32)), .val (.ref bt3)] [(.int (nar .char (((((nar .byte ((c0 >>> ((0 : Int32) &&& 31)).toInt8.toInt32)) &&& (255 : Int32)) <<< ((0 : Int32) &&& 31)) ||| (((nar .byte ((c0 >>> ((8 : Int32) &&& 31)).toInt8.toInt32)) &&& (255 : Int32)) <<< ((8 : Int32) &&& 31))).toUInt32.toUInt16.toUInt32.toInt32)))]))
    refine Gl.pre (fun _ k => XS.sipush X4.here hx rfl (hb hby d9_35) k) ?_
    show Gl p.tables e below PP (T4.setTop (mkF m 38 #[.val (.ref a1), .val (.int (0 : Int32)), .val (.int (2 : Int32)), .val (.ref b1), .val (.int (0 : Int32)), .val (.ref bt3)] [(.int (255 : Int32)), (.int (nar .char (((((nar .byte ((c0 >>> ((0 : Int32) &&& 31)).toInt8.toInt32)) &&& (255 : Int32)) <<< ((0 : Int32) &&& 31)) ||| (((nar .byte ((c0 >>> ((8 : Int32) &&& 31)).toInt8.toInt32)) &&& (255 : Int32)) <<< ((8 : Int32) &&& 31))).toUInt32.toUInt16.toUInt32.toInt32)))]))
    refine Gl.pre (fun _ k => XS.icmpYes X4.here hx rfl (pc0 := 38) (pc' := 54) rfl (hb hby d9_38) rfl (tlt (show (255 : Int32) < (nar .char (((((nar .byte ((c0 >>> ((0 : Int32) &&& 31)).toInt8.toInt32)) &&& (255 : Int32)) <<< ((0 : Int32) &&& 31)) ||| (((nar .byte ((c0 >>> ((8 : Int32) &&& 31)).toInt8.toInt32)) &&& (255 : Int32)) <<< ((8 : Int32) &&& 31))).toUInt32.toUInt16.toUInt32.toInt32)) from (by rw [own_gc c0 hr0.1 hr0.2]; exact hc0))).2.2.1 (by decide) (by decide) k) ?_
    show Gl p.tables e below PP (T4.setTop (mkF m 54 #[.val (.ref a1), .val (.int (0 : Int32)), .val (.int (2 : Int32)), .val (.ref b1), .val (.int (0 : Int32)), .val (.ref bt3)] []))
    refine Gl.pre (fun _ k => XS.aload X4.here hx rfl (hb hby d9_54) rfl rfl k) ?_
    show Gl p.tables e below PP (T4.setTop (mkF m 56 #[.val (.ref a1), .val (.int (0 : Int32)), .val (.int (2 : Int32)), .val (.ref b1), .val (.int (0 : Int32)), .val (.ref bt3)] [(.ref bt3)]))
    rw [hPP]
    refine own_finA (Q := (Qcm2 Z a1 c0 c1 h0 n0)) X4 hx hlk Bd.returns rfl rfl (hb hby d9_56) ?_ (by decide) (by decide)
    show Qcm2 Z a1 c0 c1 h0 n0 _ T4.heap _
    rw [e4]
    exact ⟨bt3, [(nar .byte ((c0 >>> ((0 : Int32) &&& 31)).toInt8.toInt32)), (nar .byte ((c0 >>> ((8 : Int32) &&& 31)).toInt8.toInt32)), (nar .byte ((c1 >>> ((0 : Int32) &&& 31)).toInt8.toInt32)), (nar .byte ((c1 >>> ((8 : Int32) &&& 31)).toInt8.toInt32))], rfl, N4, sz_bt3, K3k, Or.inr rfl, V_bt3⟩
  · show Gl p.tables e below PP (T1.setTop (mkF m 9 #[.val (.ref a1), .val (.int (0 : Int32)), .val (.int (2 : Int32)), .val (.ref b1), .unset, .unset] [(.int (2 : Int32)), (.int (0 : Int32)), (.ref b1), (.int (0 : Int32)), (.ref a1)]))
    by_cases hc1 : (255 : Int32) < c1
    · show Gl p.tables e below PP (T1.setTop (mkF m 9 #[.val (.ref a1), .val (.int (0 : Int32)), .val (.int (2 : Int32)), .val (.ref b1), .unset, .unset] [(.int (2 : Int32)), (.int (0 : Int32)), (.ref b1), (.int (0 : Int32)), (.ref a1)]))
      obtain ⟨_, _, ⟨T5, L5, k5, n5⟩, -, X5, ⟨Lc5, hQ5, l5, y5, z5⟩, st5⟩ := Jvm.LawKit.callS X1 hx (y := (⟨"java/lang/StringUTF16", "compress", "([CI[BII)I"⟩ : MethodName)) hown (mvT hZ (hw _ (List.mem_of_getElem? (i := 59) rfl))) (mvT hZ (hw _ (List.mem_of_getElem? (i := 60) rfl))) (mvT hZ (hw _ (List.mem_of_getElem? (i := 57) rfl))) (mvT hZ (hw _ (List.mem_of_getElem? (i := 61) rfl))) (by decide) (backOf (W := 0) (rmcz2_1 l Z a0 hw [] a1 b1 c0 c1 h1 n0 Z1 V_a1 V_b1 g_b1 own_ne_a1_b1 own_ne_b1_a1 hc0 hc1) hZ (hw _ (List.mem_of_getElem? (i := 61) rfl)) (hw _ (List.mem_of_getElem? (i := 57) rfl)) (by decide) (by decide)) (g := (mkF m 9 #[.val (.ref a1), .val (.int (0 : Int32)), .val (.int (2 : Int32)), .val (.ref b1), .unset, .unset] [(.int (2 : Int32)), (.int (0 : Int32)), (.ref b1), (.int (0 : Int32)), (.ref a1)])) rfl (by rw [hml]; rfl) (argsL := [(.ref a1), (.int (0 : Int32)), (.ref b1), (.int (0 : Int32)), (.int (2 : Int32))]) (rest := []) (lenOf pd_3 rfl) rfl (by show 2 * 0 + _ ≤ _; exact Nat.le_of_eq rfl) (hb hby d9_9) (fun _ _ => ⟨rfl, e1, (by decide : 1 + 0 ≤ _), (by decide : 2 + 0 ≤ _)⟩)
      dsimp only [Pt.U, Pt.locs, Pt.cells, Pt.slots] at X5 l5 y5 z5 st5 hQ5
      subst l5 y5 z5
      obtain ⟨rfl, N5q, K5, ys5, hys5, V5q⟩ := hQ5
      have N5 := Fr.app N0 N5q
      refine Gl.pre (fun _ k => st5 _ k) ?_
      have V_a1 := V_a1.keep K5 (ninS (own_ne_a1_b1) nin0)
      have O_ := O_.keep K5 (allS g_b1 all0)
      have Z5 : n0 ≤ T5.heap.size := Nat.le_trans Z1 K5.1
      have K5k := K1.trans K5 (allS (Or.inr sz_b1) all0)
      have V_b1 := V5q
      show Gl p.tables e below PP (T5.setTop (mkF m 12 #[.val (.ref a1), .val (.int (0 : Int32)), .val (.int (2 : Int32)), .val (.ref b1), .unset, .unset] [(.int (1 : Int32))]))
      refine Gl.pre (fun _ k => XS.istore X5.here hx rfl (hb hby d9_12) rfl (l' := #[.val (.ref a1), .val (.int (0 : Int32)), .val (.int (2 : Int32)), .val (.ref b1), .val (.int (1 : Int32)), .unset]) rfl k) ?_
      show Gl p.tables e below PP (T5.setTop (mkF m 14 #[.val (.ref a1), .val (.int (0 : Int32)), .val (.int (2 : Int32)), .val (.ref b1), .val (.int (1 : Int32)), .unset] []))
      refine Gl.pre (fun _ k => XS.iload X5.here hx rfl (hb hby d9_14) rfl k) ?_
      show Gl p.tables e below PP (T5.setTop (mkF m 16 #[.val (.ref a1), .val (.int (0 : Int32)), .val (.int (2 : Int32)), .val (.ref b1), .val (.int (1 : Int32)), .unset] [(.int (1 : Int32))]))
      refine Gl.pre (fun _ k => XS.iloadN X5.here hx rfl (hb hby d9_16) rfl k) ?_
      show Gl p.tables e below PP (T5.setTop (mkF m 17 #[.val (.ref a1), .val (.int (0 : Int32)), .val (.int (2 : Int32)), .val (.ref b1), .val (.int (1 : Int32)), .unset] [(.int (2 : Int32)), (.int (1 : Int32))]))
      refine Gl.pre (fun _ k => XS.icmpNo X5.here hx rfl (hb hby d9_17) rfl (feq (show ¬ ((1 : Int32) = (2 : Int32)) from (by decide))).1 k) ?_
      show Gl p.tables e below PP (T5.setTop (mkF m 20 #[.val (.ref a1), .val (.int (0 : Int32)), .val (.int (2 : Int32)), .val (.ref b1), .val (.int (1 : Int32)), .unset] []))
      refine Gl.pre (fun _ k => XS.aloadN X5.here hx rfl (hb hby d9_20) rfl rfl k) ?_
      show Gl p.tables e below PP (T5.setTop (mkF m 21 #[.val (.ref a1), .val (.int (0 : Int32)), .val (.int (2 : Int32)), .val (.ref b1), .val (.int (1 : Int32)), .unset] [(.ref a1)]))
      refine Gl.pre (fun _ k => XS.iloadN X5.here hx rfl (hb hby d9_21) rfl k) ?_
      show Gl p.tables e below PP (T5.setTop (mkF m 22 #[.val (.ref a1), .val (.int (0 : Int32)), .val (.int (2 : Int32)), .val (.ref b1), .val (.int (1 : Int32)), .unset] [(.int (0 : Int32)), (.ref a1)]))
      refine Gl.pre (fun _ k => XS.iloadN X5.here hx rfl (hb hby d9_22) rfl k) ?_
      show Gl p.tables e below PP (T5.setTop (mkF m 23 #[.val (.ref a1), .val (.int (0 : Int32)), .val (.int (2 : Int32)), .val (.ref b1), .val (.int (1 : Int32)), .unset] [(.int (2 : Int32)), (.int (0 : Int32)), (.ref a1)]))
      obtain ⟨_, _, ⟨T6, L6, k6, n6⟩, -, X6, ⟨Lc6, hQ6, l6, y6, z6⟩, st6⟩ := Jvm.LawKit.callS X5 hx (y := (⟨"java/lang/StringUTF16", "toBytes", "([CII)[B"⟩ : MethodName)) hown (mvT hZ (hw _ (List.mem_of_getElem? (i := 65) rfl))) (mvT hZ (hw _ (List.mem_of_getElem? (i := 66) rfl))) (mvT hZ (hw _ (List.mem_of_getElem? (i := 57) rfl))) (mvT hZ (hw _ (List.mem_of_getElem? (i := 67) rfl))) (by decide) (backOf (W := 0) (rmtb2 l Z a0 hw [] a1 c0 c1 T5.heap n0 Z5 V_a1 SAD SHI SLO O_) hZ (hw _ (List.mem_of_getElem? (i := 67) rfl)) (hw _ (List.mem_of_getElem? (i := 57) rfl)) (by decide) (by decide)) (g := (mkF m 23 #[.val (.ref a1), .val (.int (0 : Int32)), .val (.int (2 : Int32)), .val (.ref b1), .val (.int (1 : Int32)), .unset] [(.int (2 : Int32)), (.int (0 : Int32)), (.ref a1)])) rfl (by rw [hml]; rfl) (argsL := [(.ref a1), (.int (0 : Int32)), (.int (2 : Int32))]) (rest := []) (lenOf pd_4 rfl) rfl (by show 2 * 0 + _ ≤ _; exact Nat.le_of_eq rfl) (hb hby d9_23) (fun _ _ => ⟨rfl, rfl, (by decide : 1 + 1 ≤ _), (by decide : 2 + 4 ≤ _)⟩)
      dsimp only [Pt.U, Pt.locs, Pt.cells, Pt.slots] at X6 l6 y6 z6 st6 hQ6
      subst l6 y6 z6
      obtain ⟨bt6, rfl, N6q, hz6, K6, V6q⟩ := hQ6
      have N6 := Fr.app N5 N6q
      refine Gl.pre (fun _ k => st6 _ k) ?_
      have own_ne_a1_bt6 : a1 ≠ bt6 := Nat.ne_of_lt (Nat.lt_of_lt_of_le V_a1.lt hz6)
      have own_ne_bt6_a1 := own_ne_a1_bt6.symm
      have own_ne_b1_bt6 : b1 ≠ bt6 := Nat.ne_of_lt (Nat.lt_of_lt_of_le V_b1.lt hz6)
      have own_ne_bt6_b1 := own_ne_b1_bt6.symm
      have g_bt6 : n0 ≤ bt6 := Nat.le_trans Z5 hz6
      have sz_bt6 : h0.size ≤ bt6 := Nat.le_trans K5k.1 hz6
      have V_a1 := V_a1.keep K6 nin0
      have O_ := O_.keep K6 all0
      have V_b1 := V_b1.keep K6 nin0
      have Z6 : n0 ≤ T6.heap.size := Nat.le_trans Z5 K6.1
      have K6k := K5k.trans K6 all0
      have V_bt6 := V6q
      show Gl p.tables e below PP (T6.setTop (mkF m 26 #[.val (.ref a1), .val (.int (0 : Int32)), .val (.int (2 : Int32)), .val (.ref b1), .val (.int (1 : Int32)), .unset] [(.ref bt6)]))
      refine Gl.pre (fun _ k => XS.astore X6.here hx rfl (hb hby d9_26) rfl rfl (l' := #[.val (.ref a1), .val (.int (0 : Int32)), .val (.int (2 : Int32)), .val (.ref b1), .val (.int (1 : Int32)), .val (.ref bt6)]) rfl k) ?_
      show Gl p.tables e below PP (T6.setTop (mkF m 28 #[.val (.ref a1), .val (.int (0 : Int32)), .val (.int (2 : Int32)), .val (.ref b1), .val (.int (1 : Int32)), .val (.ref bt6)] []))
      refine Gl.pre (fun _ k => XS.aload X6.here hx rfl (hb hby d9_28) rfl rfl k) ?_
      show Gl p.tables e below PP (T6.setTop (mkF m 30 #[.val (.ref a1), .val (.int (0 : Int32)), .val (.int (2 : Int32)), .val (.ref b1), .val (.int (1 : Int32)), .val (.ref bt6)] [(.ref bt6)]))
      refine Gl.pre (fun _ k => XS.iload X6.here hx rfl (hb hby d9_30) rfl k) ?_
      show Gl p.tables e below PP (T6.setTop (mkF m 32 #[.val (.ref a1), .val (.int (0 : Int32)), .val (.int (2 : Int32)), .val (.ref b1), .val (.int (1 : Int32)), .val (.ref bt6)] [(.int (1 : Int32)), (.ref bt6)]))
      obtain ⟨_, _, ⟨T7, L7, k7, n7⟩, -, X7, ⟨Lc7, hQ7, l7, y7, z7⟩, st7⟩ := Jvm.LawKit.callS X6 hx (y := (⟨"java/lang/StringUTF16", "getChar", "([BI)C"⟩ : MethodName)) hown (mvT hZ (hw _ (List.mem_of_getElem? (i := 81) rfl))) (mvT hZ (hw _ (List.mem_of_getElem? (i := 82) rfl))) (mvT hZ (hw _ (List.mem_of_getElem? (i := 57) rfl))) (mvT hZ (hw _ (List.mem_of_getElem? (i := 83) rfl))) (by decide) (backOf (W := 0) (rmgc2_1 l Z a0 hw [] bt6 (nar .byte ((c0 >>> ((0 : Int32) &&& 31)).toInt8.toInt32)) (nar .byte ((c0 >>> ((8 : Int32) &&& 31)).toInt8.toInt32)) (nar .byte ((c1 >>> ((0 : Int32) &&& 31)).toInt8.toInt32)) (nar .byte ((c1 >>> ((8 : Int32) &&& 31)).toInt8.toInt32)) T6.heap n0 Z6 V_bt6 SAD SHI SLO O_) hZ (hw _ (List.mem_of_getElem? (i := 83) rfl)) (hw _ (List.mem_of_getElem? (i := 57) rfl)) (by decide) (by decide)) (g := (mkF m 32 #[.val (.ref a1), .val (.int (0 : Int32)), .val (.int (2 : Int32)), .val (.ref b1), .val (.int (1 : Int32)), .val (.ref bt6)] [(.int (1 : Int32)), (.ref bt6)])) rfl (by rw [hml]; rfl) (argsL := [(.ref bt6), (.int (1 : Int32))]) (rest := []) (lenOf pd_5 rfl) rfl (by show 2 * 0 + _ ≤ _; exact Nat.le_of_eq rfl) (hb hby d9_32) (fun _ _ => ⟨rfl, rfl, (by decide : 2 + 0 ≤ _), (by decide : 6 + 0 ≤ _)⟩)
      dsimp only [Pt.U, Pt.locs, Pt.cells, Pt.slots] at X7 l7 y7 z7 st7 hQ7
      subst l7 y7 z7
      obtain ⟨rfl, N7q, e7⟩ := hQ7
      have N7 := Fr.app N6 N7q
      refine Gl.pre (fun _ k => st7 _ k) ?_
      show Gl p.tables e below PP (T7.setTop (mkF m 35 #[.val (.ref a1), .val (.int (0 : Int32)), .val (.int (2 : Int32)), .val (.ref b1), .val (.int (1 : Int32)), .val (.ref bt6)] [(.int (nar .char (((((nar .byte ((c1 >>> ((0 : Int32) &&& 31)).toInt8.toInt32)) &&& (255 : Int32)) <<< ((0 : Int32) &&& 31)) ||| (((nar .byte ((c1 >>> ((8 : Int32) &&& 31)).toInt8.toInt32)) &&& (255 : Int32)) <<< ((8 : Int32) &&& 31))).toUInt32.toUInt16.toUInt32.toInt32)))]))
      refine Gl.pre (fun _ k => XS.sipush X7.here hx rfl (hb hby d9_35) k) ?_
      show Gl p.tables e below PP (T7.setTop (mkF m 38 #[.val (.ref a1), .val (.int (0 : Int32)), .val (.int (2 : Int32)), .val (.ref b1), .val (.int (1 : Int32)), .val (.ref bt6)] [(.int (255 : Int32)), (.int (nar .char (((((nar .byte ((c1 >>> ((0 : Int32) &&& 31)).toInt8.toInt32)) &&& (255 : Int32)) <<< ((0 : Int32) &&& 31)) ||| (((nar .byte ((c1 >>> ((8 : Int32) &&& 31)).toInt8.toInt32)) &&& (255 : Int32)) <<< ((8 : Int32) &&& 31))).toUInt32.toUInt16.toUInt32.toInt32)))]))
      refine Gl.pre (fun _ k => XS.icmpYes X7.here hx rfl (pc0 := 38) (pc' := 54) rfl (hb hby d9_38) rfl (tlt (show (255 : Int32) < (nar .char (((((nar .byte ((c1 >>> ((0 : Int32) &&& 31)).toInt8.toInt32)) &&& (255 : Int32)) <<< ((0 : Int32) &&& 31)) ||| (((nar .byte ((c1 >>> ((8 : Int32) &&& 31)).toInt8.toInt32)) &&& (255 : Int32)) <<< ((8 : Int32) &&& 31))).toUInt32.toUInt16.toUInt32.toInt32)) from (by rw [own_gc c1 hr1.1 hr1.2]; exact hc1))).2.2.1 (by decide) (by decide) k) ?_
      show Gl p.tables e below PP (T7.setTop (mkF m 54 #[.val (.ref a1), .val (.int (0 : Int32)), .val (.int (2 : Int32)), .val (.ref b1), .val (.int (1 : Int32)), .val (.ref bt6)] []))
      refine Gl.pre (fun _ k => XS.aload X7.here hx rfl (hb hby d9_54) rfl rfl k) ?_
      show Gl p.tables e below PP (T7.setTop (mkF m 56 #[.val (.ref a1), .val (.int (0 : Int32)), .val (.int (2 : Int32)), .val (.ref b1), .val (.int (1 : Int32)), .val (.ref bt6)] [(.ref bt6)]))
      rw [hPP]
      refine own_finA (Q := (Qcm2 Z a1 c0 c1 h0 n0)) X7 hx hlk Bd.returns rfl rfl (hb hby d9_56) ?_ (by decide) (by decide)
      show Qcm2 Z a1 c0 c1 h0 n0 _ T7.heap _
      rw [e7]
      exact ⟨bt6, [(nar .byte ((c0 >>> ((0 : Int32) &&& 31)).toInt8.toInt32)), (nar .byte ((c0 >>> ((8 : Int32) &&& 31)).toInt8.toInt32)), (nar .byte ((c1 >>> ((0 : Int32) &&& 31)).toInt8.toInt32)), (nar .byte ((c1 >>> ((8 : Int32) &&& 31)).toInt8.toInt32))], rfl, N7, sz_bt6, K6k, Or.inr rfl, V_bt6⟩
    · show Gl p.tables e below PP (T1.setTop (mkF m 9 #[.val (.ref a1), .val (.int (0 : Int32)), .val (.int (2 : Int32)), .val (.ref b1), .unset, .unset] [(.int (2 : Int32)), (.int (0 : Int32)), (.ref b1), (.int (0 : Int32)), (.ref a1)]))
      obtain ⟨_, _, ⟨T8, L8, k8, n8⟩, -, X8, ⟨Lc8, hQ8, l8, y8, z8⟩, st8⟩ := Jvm.LawKit.callS X1 hx (y := (⟨"java/lang/StringUTF16", "compress", "([CI[BII)I"⟩ : MethodName)) hown (mvT hZ (hw _ (List.mem_of_getElem? (i := 59) rfl))) (mvT hZ (hw _ (List.mem_of_getElem? (i := 60) rfl))) (mvT hZ (hw _ (List.mem_of_getElem? (i := 57) rfl))) (mvT hZ (hw _ (List.mem_of_getElem? (i := 61) rfl))) (by decide) (backOf (W := 0) (rmcz2_2 l Z a0 hw [] a1 b1 c0 c1 h1 n0 Z1 V_a1 V_b1 g_b1 own_ne_a1_b1 own_ne_b1_a1 hc0 hc1) hZ (hw _ (List.mem_of_getElem? (i := 61) rfl)) (hw _ (List.mem_of_getElem? (i := 57) rfl)) (by decide) (by decide)) (g := (mkF m 9 #[.val (.ref a1), .val (.int (0 : Int32)), .val (.int (2 : Int32)), .val (.ref b1), .unset, .unset] [(.int (2 : Int32)), (.int (0 : Int32)), (.ref b1), (.int (0 : Int32)), (.ref a1)])) rfl (by rw [hml]; rfl) (argsL := [(.ref a1), (.int (0 : Int32)), (.ref b1), (.int (0 : Int32)), (.int (2 : Int32))]) (rest := []) (lenOf pd_3 rfl) rfl (by show 2 * 0 + _ ≤ _; exact Nat.le_of_eq rfl) (hb hby d9_9) (fun _ _ => ⟨rfl, e1, (by decide : 1 + 0 ≤ _), (by decide : 2 + 0 ≤ _)⟩)
      dsimp only [Pt.U, Pt.locs, Pt.cells, Pt.slots] at X8 l8 y8 z8 st8 hQ8
      subst l8 y8 z8
      obtain ⟨rfl, N8q, K8, ys8, hys8, V8q⟩ := hQ8
      have N8 := Fr.app N0 N8q
      refine Gl.pre (fun _ k => st8 _ k) ?_
      have V_a1 := V_a1.keep K8 (ninS (own_ne_a1_b1) nin0)
      have O_ := O_.keep K8 (allS g_b1 all0)
      have Z8 : n0 ≤ T8.heap.size := Nat.le_trans Z1 K8.1
      have K8k := K1.trans K8 (allS (Or.inr sz_b1) all0)
      have V_b1 := V8q
      show Gl p.tables e below PP (T8.setTop (mkF m 12 #[.val (.ref a1), .val (.int (0 : Int32)), .val (.int (2 : Int32)), .val (.ref b1), .unset, .unset] [(.int (2 : Int32))]))
      refine Gl.pre (fun _ k => XS.istore X8.here hx rfl (hb hby d9_12) rfl (l' := #[.val (.ref a1), .val (.int (0 : Int32)), .val (.int (2 : Int32)), .val (.ref b1), .val (.int (2 : Int32)), .unset]) rfl k) ?_
      show Gl p.tables e below PP (T8.setTop (mkF m 14 #[.val (.ref a1), .val (.int (0 : Int32)), .val (.int (2 : Int32)), .val (.ref b1), .val (.int (2 : Int32)), .unset] []))
      refine Gl.pre (fun _ k => XS.iload X8.here hx rfl (hb hby d9_14) rfl k) ?_
      show Gl p.tables e below PP (T8.setTop (mkF m 16 #[.val (.ref a1), .val (.int (0 : Int32)), .val (.int (2 : Int32)), .val (.ref b1), .val (.int (2 : Int32)), .unset] [(.int (2 : Int32))]))
      refine Gl.pre (fun _ k => XS.iloadN X8.here hx rfl (hb hby d9_16) rfl k) ?_
      show Gl p.tables e below PP (T8.setTop (mkF m 17 #[.val (.ref a1), .val (.int (0 : Int32)), .val (.int (2 : Int32)), .val (.ref b1), .val (.int (2 : Int32)), .unset] [(.int (2 : Int32)), (.int (2 : Int32))]))
      refine Gl.pre (fun _ k => XS.icmpYes X8.here hx rfl (pc0 := 17) (pc' := 57) rfl (hb hby d9_17) rfl (teq (show (2 : Int32) = (2 : Int32) from (by decide))).1 (by decide) (by decide) k) ?_
      show Gl p.tables e below PP (T8.setTop (mkF m 57 #[.val (.ref a1), .val (.int (0 : Int32)), .val (.int (2 : Int32)), .val (.ref b1), .val (.int (2 : Int32)), .unset] []))
      refine Gl.pre (fun _ k => XS.aloadN X8.here hx rfl (hb hby d9_57) rfl rfl k) ?_
      show Gl p.tables e below PP (T8.setTop (mkF m 58 #[.val (.ref a1), .val (.int (0 : Int32)), .val (.int (2 : Int32)), .val (.ref b1), .val (.int (2 : Int32)), .unset] [(.ref b1)]))
      rw [hPP]
      refine own_finA (Q := (Qcm2 Z a1 c0 c1 h0 n0)) X8 hx hlk Bd.returns rfl rfl (hb hby d9_58) ?_ (by decide) (by decide)
      show Qcm2 Z a1 c0 c1 h0 n0 _ T8.heap _
      exact ⟨b1, ys8, rfl, N8, sz_b1, K8k, Or.inl hys8, V_b1⟩
theorem ef_cz3_0 (m : MethodId) (a1 : Addr) (a2 : Addr) (c0 : Int32) (c1 : Int32) (c2 : Int32) : entryFrame m #[(.ref a1), (.int (0 : Int32)), (.ref a2), (.int (0 : Int32)), (.int (3 : Int32))] 7 = mkF m 0 #[.val (.ref a1), .val (.int (0 : Int32)), .val (.ref a2), .val (.int (0 : Int32)), .val (.int (3 : Int32)), .unset, .unset] [] := by first | (simp [entryFrame, mkF, argsToLocals, Value.category]; done) | rfl
def Qcz3_0 (Z : State) (a1 : Addr) (a2 : Addr) (c0 : Int32) (c1 : Int32) (c2 : Int32) (h0 : Heap) (n0 : Nat) (v : Option Value) (h : Heap) (L : List Loc) : Prop := v = some (.int (0 : Int32)) ∧ Fr n0 L ∧ Keep h0 h [a2] ∧ ∃ ys : List Int32, ys.length = 3 ∧ Bal Z h a2 .byte ys
set_option maxRecDepth 65536 in
set_option maxHeartbeats 40000000 in
theorem rmcz3_0 (l : Launch) (Z : State) (a0 : Array Value) (hw : ∀ d ∈ tables_1, d.before a0 Z = true) (ws : List Jvm.Cond) (a1 : Addr) (a2 : Addr) (c0 : Int32) (c1 : Int32) (c2 : Int32) (h0 : Heap) (n0 : Nat) (Z0 : n0 ≤ h0.size) (V_a1 : Bal Z h0 a1 .char [c0, c1, c2]) (V_a2 : Bal Z h0 a2 .byte [(0 : Int32), (0 : Int32), (0 : Int32)]) (g_a2 : n0 ≤ a2) (own_ne_a1_a2 : a1 ≠ a2) (own_ne_a2_a1 : a2 ≠ a1) (hc0 : (255 : Int32) < c0) :
    MetFree l (⟨"java/lang/StringUTF16", "compress", "([CI[BII)I"⟩ : MethodName) (head1 (Jvm.Cond.code (⟨"java/lang/StringUTF16", "compress", "([CI[BII)I"⟩ : MethodName) jdk_52_method_21_code 7 (some .int) :: ws) ({ frames := 0, cells := 0, slots := 0, locals := 0 } : Room)) (fun a U => a = #[(.ref a1), (.int (0 : Int32)), (.ref a2), (.int (0 : Int32)), (.int (3 : Int32))] ∧ Z.Warmed39 U.vm ∧ U.heap = h0) (fun _ _ _ _ _ => True) (fun _ U o U' => ∃ v L, o = .returned v ∧ Qcz3_0 Z a1 a2 c0 c1 c2 h0 n0 v U'.heap L ∧ FrameEnd U o U' L ({ frames := 0, cells := 0, slots := 0, locals := 0 } : Room).cells ({ frames := 0, cells := 0, slots := 0, locals := 0 } : Room).slots) := by
  refine MetFree.of_bodySF (plainFor_of_name pn_10) hisR ?_
  intro p e s m args below meth c s₁ Bd hml0 hP hK
  obtain ⟨rfl, hZ, hh⟩ := hP
  have hx := Bd.exec
  have hby := Bd.bytes
  have hlk : meth.locks = false := BodyLoose.notSynchronized Bd
  have hml : c.maxLocals = 7 := hml0
  have hown : s.vm.findClass "java/lang/StringUTF16" = some m.cls := findClass_of_methodNamed Bd.named
  have hnm := (name_of_methodNamed Bd.named Bd.method).1
  have X0 : Stand p l e ({ frames := 0, cells := 0, slots := 0, locals := 0 } : Room) s m #[(.ref a1), (.int (0 : Int32)), (.ref a2), (.int (0 : Int32)), (.int (3 : Int32))] below meth c s₁ [] 0 0 := Stand.of_body Bd
  have e0 : s₁.heap = h0 := by rw [← hh, Bd.state]; rfl
  have N0 := Fr.nil n0
  show Gl p.tables e below (fun (o : Outcome) (U' : State) => ∃ v L, o = .returned v ∧ Qcz3_0 Z a1 a2 c0 c1 c2 h0 n0 v U'.heap L ∧ FrameEnd s o U' L ({ frames := 0, cells := 0, slots := 0, locals := 0 } : Room).cells ({ frames := 0, cells := 0, slots := 0, locals := 0 } : Room).slots) _
  refine Gl.pre (fun t k => castTop (ef_cz3_0 m a1 a2 c0 c1 c2) k) ?_
  obtain ⟨PP, hPP⟩ : ∃ P : Outcome → State → Prop, P = (fun (o : Outcome) (U' : State) => ∃ v L, o = .returned v ∧ Qcz3_0 Z a1 a2 c0 c1 c2 h0 n0 v U'.heap L ∧ FrameEnd s o U' L ({ frames := 0, cells := 0, slots := 0, locals := 0 } : Room).cells ({ frames := 0, cells := 0, slots := 0, locals := 0 } : Room).slots) := ⟨_, rfl⟩
  rw [← hPP]
  have K0 : Keep h0 h0 [a2] := Keep.refl h0 _
  show Gl p.tables e below PP (s₁.setTop (mkF m 0 #[.val (.ref a1), .val (.int (0 : Int32)), .val (.ref a2), .val (.int (0 : Int32)), .val (.int (3 : Int32)), .unset, .unset] []))
  refine Gl.pre (fun _ k => XS.iconst X0.here hx rfl (hb hby d10_0) k) ?_
  show Gl p.tables e below PP (s₁.setTop (mkF m 1 #[.val (.ref a1), .val (.int (0 : Int32)), .val (.ref a2), .val (.int (0 : Int32)), .val (.int (3 : Int32)), .unset, .unset] [(.int (0 : Int32))]))
  refine Gl.pre (fun _ k => XS.istore X0.here hx rfl (hb hby d10_1) rfl (l' := #[.val (.ref a1), .val (.int (0 : Int32)), .val (.ref a2), .val (.int (0 : Int32)), .val (.int (3 : Int32)), .val (.int (0 : Int32)), .unset]) rfl k) ?_
  show Gl p.tables e below PP (s₁.setTop (mkF m 3 #[.val (.ref a1), .val (.int (0 : Int32)), .val (.ref a2), .val (.int (0 : Int32)), .val (.int (3 : Int32)), .val (.int (0 : Int32)), .unset] []))
  refine Gl.pre (fun _ k => XS.iload X0.here hx rfl (hb hby d10_3) rfl k) ?_
  show Gl p.tables e below PP (s₁.setTop (mkF m 5 #[.val (.ref a1), .val (.int (0 : Int32)), .val (.ref a2), .val (.int (0 : Int32)), .val (.int (3 : Int32)), .val (.int (0 : Int32)), .unset] [(.int (0 : Int32))]))
  refine Gl.pre (fun _ k => XS.iload X0.here hx rfl (hb hby d10_5) rfl k) ?_
  show Gl p.tables e below PP (s₁.setTop (mkF m 7 #[.val (.ref a1), .val (.int (0 : Int32)), .val (.ref a2), .val (.int (0 : Int32)), .val (.int (3 : Int32)), .val (.int (0 : Int32)), .unset] [(.int (3 : Int32)), (.int (0 : Int32))]))
  refine Gl.pre (fun _ k => XS.icmpNo X0.here hx rfl (hb hby d10_7) rfl (tlt (show (0 : Int32) < (3 : Int32) from (by decide))).2.1 k) ?_
  show Gl p.tables e below PP (s₁.setTop (mkF m 10 #[.val (.ref a1), .val (.int (0 : Int32)), .val (.ref a2), .val (.int (0 : Int32)), .val (.int (3 : Int32)), .val (.int (0 : Int32)), .unset] []))
  refine Gl.pre (fun _ k => XS.aloadN X0.here hx rfl (hb hby d10_10) rfl rfl k) ?_
  show Gl p.tables e below PP (s₁.setTop (mkF m 11 #[.val (.ref a1), .val (.int (0 : Int32)), .val (.ref a2), .val (.int (0 : Int32)), .val (.int (3 : Int32)), .val (.int (0 : Int32)), .unset] [(.ref a1)]))
  refine Gl.pre (fun _ k => XS.iloadN X0.here hx rfl (hb hby d10_11) rfl k) ?_
  show Gl p.tables e below PP (s₁.setTop (mkF m 12 #[.val (.ref a1), .val (.int (0 : Int32)), .val (.ref a2), .val (.int (0 : Int32)), .val (.int (3 : Int32)), .val (.int (0 : Int32)), .unset] [(.int (0 : Int32)), (.ref a1)]))
  refine Gl.pre (fun _ k => own_ldC X0 hx hZ e0 V_a1 (j := (0 : Int32)) (i := 0) (by decide) (by decide) (Nat.lt_of_lt_of_eq (by decide : 0 < 3) rfl) (v := c0) rfl (g := (mkF m 12 #[.val (.ref a1), .val (.int (0 : Int32)), .val (.ref a2), .val (.int (0 : Int32)), .val (.int (3 : Int32)), .val (.int (0 : Int32)), .unset] [(.int (0 : Int32)), (.ref a1)])) rfl rfl (hb hby d10_12) _ k) ?_
  show Gl p.tables e below PP (s₁.setTop (mkF m 13 #[.val (.ref a1), .val (.int (0 : Int32)), .val (.ref a2), .val (.int (0 : Int32)), .val (.int (3 : Int32)), .val (.int (0 : Int32)), .unset] [(.int c0)]))
  refine Gl.pre (fun _ k => XS.istore X0.here hx rfl (hb hby d10_13) rfl (l' := #[.val (.ref a1), .val (.int (0 : Int32)), .val (.ref a2), .val (.int (0 : Int32)), .val (.int (3 : Int32)), .val (.int (0 : Int32)), .val (.int c0)]) rfl k) ?_
  show Gl p.tables e below PP (s₁.setTop (mkF m 15 #[.val (.ref a1), .val (.int (0 : Int32)), .val (.ref a2), .val (.int (0 : Int32)), .val (.int (3 : Int32)), .val (.int (0 : Int32)), .val (.int c0)] []))
  refine Gl.pre (fun _ k => XS.iload X0.here hx rfl (hb hby d10_15) rfl k) ?_
  show Gl p.tables e below PP (s₁.setTop (mkF m 17 #[.val (.ref a1), .val (.int (0 : Int32)), .val (.ref a2), .val (.int (0 : Int32)), .val (.int (3 : Int32)), .val (.int (0 : Int32)), .val (.int c0)] [(.int c0)]))
  refine Gl.pre (fun _ k => XS.sipush X0.here hx rfl (hb hby d10_17) k) ?_
  show Gl p.tables e below PP (s₁.setTop (mkF m 20 #[.val (.ref a1), .val (.int (0 : Int32)), .val (.ref a2), .val (.int (0 : Int32)), .val (.int (3 : Int32)), .val (.int (0 : Int32)), .val (.int c0)] [(.int (255 : Int32)), (.int c0)]))
  refine Gl.pre (fun _ k => XS.icmpNo X0.here hx rfl (hb hby d10_20) rfl (tlt (show (255 : Int32) < c0 from hc0)).2.2.2 k) ?_
  show Gl p.tables e below PP (s₁.setTop (mkF m 23 #[.val (.ref a1), .val (.int (0 : Int32)), .val (.ref a2), .val (.int (0 : Int32)), .val (.int (3 : Int32)), .val (.int (0 : Int32)), .val (.int c0)] []))
  refine Gl.pre (fun _ k => XS.iload X0.here hx rfl (hb hby d10_23) rfl k) ?_
  show Gl p.tables e below PP (s₁.setTop (mkF m 25 #[.val (.ref a1), .val (.int (0 : Int32)), .val (.ref a2), .val (.int (0 : Int32)), .val (.int (3 : Int32)), .val (.int (0 : Int32)), .val (.int c0)] [(.int (0 : Int32))]))
  rw [hPP]
  refine own_finI (Q := (Qcz3_0 Z a1 a2 c0 c1 c2 h0 n0)) X0 hx hlk Bd.returns (hb hby d10_25) ?_ (by decide) (by decide)
  show Qcz3_0 Z a1 a2 c0 c1 c2 h0 n0 _ s₁.heap _
  rw [e0]
  exact ⟨rfl, N0, K0, _, rfl, V_a2⟩
theorem ef_cz3_1 (m : MethodId) (a1 : Addr) (a2 : Addr) (c0 : Int32) (c1 : Int32) (c2 : Int32) : entryFrame m #[(.ref a1), (.int (0 : Int32)), (.ref a2), (.int (0 : Int32)), (.int (3 : Int32))] 7 = mkF m 0 #[.val (.ref a1), .val (.int (0 : Int32)), .val (.ref a2), .val (.int (0 : Int32)), .val (.int (3 : Int32)), .unset, .unset] [] := by first | (simp [entryFrame, mkF, argsToLocals, Value.category]; done) | rfl
def Qcz3_1 (Z : State) (a1 : Addr) (a2 : Addr) (c0 : Int32) (c1 : Int32) (c2 : Int32) (h0 : Heap) (n0 : Nat) (v : Option Value) (h : Heap) (L : List Loc) : Prop := v = some (.int (1 : Int32)) ∧ Fr n0 L ∧ Keep h0 h [a2] ∧ ∃ ys : List Int32, ys.length = 3 ∧ Bal Z h a2 .byte ys
set_option maxRecDepth 65536 in
set_option maxHeartbeats 40000000 in
theorem rmcz3_1 (l : Launch) (Z : State) (a0 : Array Value) (hw : ∀ d ∈ tables_1, d.before a0 Z = true) (ws : List Jvm.Cond) (a1 : Addr) (a2 : Addr) (c0 : Int32) (c1 : Int32) (c2 : Int32) (h0 : Heap) (n0 : Nat) (Z0 : n0 ≤ h0.size) (V_a1 : Bal Z h0 a1 .char [c0, c1, c2]) (V_a2 : Bal Z h0 a2 .byte [(0 : Int32), (0 : Int32), (0 : Int32)]) (g_a2 : n0 ≤ a2) (own_ne_a1_a2 : a1 ≠ a2) (own_ne_a2_a1 : a2 ≠ a1) (hc0 : ¬ ((255 : Int32) < c0)) (hc1 : (255 : Int32) < c1) :
    MetFree l (⟨"java/lang/StringUTF16", "compress", "([CI[BII)I"⟩ : MethodName) (head1 (Jvm.Cond.code (⟨"java/lang/StringUTF16", "compress", "([CI[BII)I"⟩ : MethodName) jdk_52_method_21_code 7 (some .int) :: ws) ({ frames := 0, cells := 0, slots := 0, locals := 0 } : Room)) (fun a U => a = #[(.ref a1), (.int (0 : Int32)), (.ref a2), (.int (0 : Int32)), (.int (3 : Int32))] ∧ Z.Warmed39 U.vm ∧ U.heap = h0) (fun _ _ _ _ _ => True) (fun _ U o U' => ∃ v L, o = .returned v ∧ Qcz3_1 Z a1 a2 c0 c1 c2 h0 n0 v U'.heap L ∧ FrameEnd U o U' L ({ frames := 0, cells := 0, slots := 0, locals := 0 } : Room).cells ({ frames := 0, cells := 0, slots := 0, locals := 0 } : Room).slots) := by
  refine MetFree.of_bodySF (plainFor_of_name pn_10) hisR ?_
  intro p e s m args below meth c s₁ Bd hml0 hP hK
  obtain ⟨rfl, hZ, hh⟩ := hP
  have hx := Bd.exec
  have hby := Bd.bytes
  have hlk : meth.locks = false := BodyLoose.notSynchronized Bd
  have hml : c.maxLocals = 7 := hml0
  have hown : s.vm.findClass "java/lang/StringUTF16" = some m.cls := findClass_of_methodNamed Bd.named
  have hnm := (name_of_methodNamed Bd.named Bd.method).1
  have X0 : Stand p l e ({ frames := 0, cells := 0, slots := 0, locals := 0 } : Room) s m #[(.ref a1), (.int (0 : Int32)), (.ref a2), (.int (0 : Int32)), (.int (3 : Int32))] below meth c s₁ [] 0 0 := Stand.of_body Bd
  have e0 : s₁.heap = h0 := by rw [← hh, Bd.state]; rfl
  have N0 := Fr.nil n0
  show Gl p.tables e below (fun (o : Outcome) (U' : State) => ∃ v L, o = .returned v ∧ Qcz3_1 Z a1 a2 c0 c1 c2 h0 n0 v U'.heap L ∧ FrameEnd s o U' L ({ frames := 0, cells := 0, slots := 0, locals := 0 } : Room).cells ({ frames := 0, cells := 0, slots := 0, locals := 0 } : Room).slots) _
  refine Gl.pre (fun t k => castTop (ef_cz3_1 m a1 a2 c0 c1 c2) k) ?_
  obtain ⟨PP, hPP⟩ : ∃ P : Outcome → State → Prop, P = (fun (o : Outcome) (U' : State) => ∃ v L, o = .returned v ∧ Qcz3_1 Z a1 a2 c0 c1 c2 h0 n0 v U'.heap L ∧ FrameEnd s o U' L ({ frames := 0, cells := 0, slots := 0, locals := 0 } : Room).cells ({ frames := 0, cells := 0, slots := 0, locals := 0 } : Room).slots) := ⟨_, rfl⟩
  rw [← hPP]
  have K0 : Keep h0 h0 [a2] := Keep.refl h0 _
  show Gl p.tables e below PP (s₁.setTop (mkF m 0 #[.val (.ref a1), .val (.int (0 : Int32)), .val (.ref a2), .val (.int (0 : Int32)), .val (.int (3 : Int32)), .unset, .unset] []))
  refine Gl.pre (fun _ k => XS.iconst X0.here hx rfl (hb hby d10_0) k) ?_
  show Gl p.tables e below PP (s₁.setTop (mkF m 1 #[.val (.ref a1), .val (.int (0 : Int32)), .val (.ref a2), .val (.int (0 : Int32)), .val (.int (3 : Int32)), .unset, .unset] [(.int (0 : Int32))]))
  refine Gl.pre (fun _ k => XS.istore X0.here hx rfl (hb hby d10_1) rfl (l' := #[.val (.ref a1), .val (.int (0 : Int32)), .val (.ref a2), .val (.int (0 : Int32)), .val (.int (3 : Int32)), .val (.int (0 : Int32)), .unset]) rfl k) ?_
  show Gl p.tables e below PP (s₁.setTop (mkF m 3 #[.val (.ref a1), .val (.int (0 : Int32)), .val (.ref a2), .val (.int (0 : Int32)), .val (.int (3 : Int32)), .val (.int (0 : Int32)), .unset] []))
  refine Gl.pre (fun _ k => XS.iload X0.here hx rfl (hb hby d10_3) rfl k) ?_
  show Gl p.tables e below PP (s₁.setTop (mkF m 5 #[.val (.ref a1), .val (.int (0 : Int32)), .val (.ref a2), .val (.int (0 : Int32)), .val (.int (3 : Int32)), .val (.int (0 : Int32)), .unset] [(.int (0 : Int32))]))
  refine Gl.pre (fun _ k => XS.iload X0.here hx rfl (hb hby d10_5) rfl k) ?_
  show Gl p.tables e below PP (s₁.setTop (mkF m 7 #[.val (.ref a1), .val (.int (0 : Int32)), .val (.ref a2), .val (.int (0 : Int32)), .val (.int (3 : Int32)), .val (.int (0 : Int32)), .unset] [(.int (3 : Int32)), (.int (0 : Int32))]))
  refine Gl.pre (fun _ k => XS.icmpNo X0.here hx rfl (hb hby d10_7) rfl (tlt (show (0 : Int32) < (3 : Int32) from (by decide))).2.1 k) ?_
  show Gl p.tables e below PP (s₁.setTop (mkF m 10 #[.val (.ref a1), .val (.int (0 : Int32)), .val (.ref a2), .val (.int (0 : Int32)), .val (.int (3 : Int32)), .val (.int (0 : Int32)), .unset] []))
  refine Gl.pre (fun _ k => XS.aloadN X0.here hx rfl (hb hby d10_10) rfl rfl k) ?_
  show Gl p.tables e below PP (s₁.setTop (mkF m 11 #[.val (.ref a1), .val (.int (0 : Int32)), .val (.ref a2), .val (.int (0 : Int32)), .val (.int (3 : Int32)), .val (.int (0 : Int32)), .unset] [(.ref a1)]))
  refine Gl.pre (fun _ k => XS.iloadN X0.here hx rfl (hb hby d10_11) rfl k) ?_
  show Gl p.tables e below PP (s₁.setTop (mkF m 12 #[.val (.ref a1), .val (.int (0 : Int32)), .val (.ref a2), .val (.int (0 : Int32)), .val (.int (3 : Int32)), .val (.int (0 : Int32)), .unset] [(.int (0 : Int32)), (.ref a1)]))
  refine Gl.pre (fun _ k => own_ldC X0 hx hZ e0 V_a1 (j := (0 : Int32)) (i := 0) (by decide) (by decide) (Nat.lt_of_lt_of_eq (by decide : 0 < 3) rfl) (v := c0) rfl (g := (mkF m 12 #[.val (.ref a1), .val (.int (0 : Int32)), .val (.ref a2), .val (.int (0 : Int32)), .val (.int (3 : Int32)), .val (.int (0 : Int32)), .unset] [(.int (0 : Int32)), (.ref a1)])) rfl rfl (hb hby d10_12) _ k) ?_
  show Gl p.tables e below PP (s₁.setTop (mkF m 13 #[.val (.ref a1), .val (.int (0 : Int32)), .val (.ref a2), .val (.int (0 : Int32)), .val (.int (3 : Int32)), .val (.int (0 : Int32)), .unset] [(.int c0)]))
  refine Gl.pre (fun _ k => XS.istore X0.here hx rfl (hb hby d10_13) rfl (l' := #[.val (.ref a1), .val (.int (0 : Int32)), .val (.ref a2), .val (.int (0 : Int32)), .val (.int (3 : Int32)), .val (.int (0 : Int32)), .val (.int c0)]) rfl k) ?_
  show Gl p.tables e below PP (s₁.setTop (mkF m 15 #[.val (.ref a1), .val (.int (0 : Int32)), .val (.ref a2), .val (.int (0 : Int32)), .val (.int (3 : Int32)), .val (.int (0 : Int32)), .val (.int c0)] []))
  refine Gl.pre (fun _ k => XS.iload X0.here hx rfl (hb hby d10_15) rfl k) ?_
  show Gl p.tables e below PP (s₁.setTop (mkF m 17 #[.val (.ref a1), .val (.int (0 : Int32)), .val (.ref a2), .val (.int (0 : Int32)), .val (.int (3 : Int32)), .val (.int (0 : Int32)), .val (.int c0)] [(.int c0)]))
  refine Gl.pre (fun _ k => XS.sipush X0.here hx rfl (hb hby d10_17) k) ?_
  show Gl p.tables e below PP (s₁.setTop (mkF m 20 #[.val (.ref a1), .val (.int (0 : Int32)), .val (.ref a2), .val (.int (0 : Int32)), .val (.int (3 : Int32)), .val (.int (0 : Int32)), .val (.int c0)] [(.int (255 : Int32)), (.int c0)]))
  refine Gl.pre (fun _ k => XS.icmpYes X0.here hx rfl (pc0 := 20) (pc' := 26) rfl (hb hby d10_20) rfl (flt (show ¬ ((255 : Int32) < c0) from hc0)).2.2.2 (by decide) (by decide) k) ?_
  show Gl p.tables e below PP (s₁.setTop (mkF m 26 #[.val (.ref a1), .val (.int (0 : Int32)), .val (.ref a2), .val (.int (0 : Int32)), .val (.int (3 : Int32)), .val (.int (0 : Int32)), .val (.int c0)] []))
  refine Gl.pre (fun _ k => XS.aloadN X0.here hx rfl (hb hby d10_26) rfl rfl k) ?_
  show Gl p.tables e below PP (s₁.setTop (mkF m 27 #[.val (.ref a1), .val (.int (0 : Int32)), .val (.ref a2), .val (.int (0 : Int32)), .val (.int (3 : Int32)), .val (.int (0 : Int32)), .val (.int c0)] [(.ref a2)]))
  refine Gl.pre (fun _ k => XS.iloadN X0.here hx rfl (hb hby d10_27) rfl k) ?_
  show Gl p.tables e below PP (s₁.setTop (mkF m 28 #[.val (.ref a1), .val (.int (0 : Int32)), .val (.ref a2), .val (.int (0 : Int32)), .val (.int (3 : Int32)), .val (.int (0 : Int32)), .val (.int c0)] [(.int (0 : Int32)), (.ref a2)]))
  refine Gl.pre (fun _ k => XS.iload X0.here hx rfl (hb hby d10_28) rfl k) ?_
  show Gl p.tables e below PP (s₁.setTop (mkF m 30 #[.val (.ref a1), .val (.int (0 : Int32)), .val (.ref a2), .val (.int (0 : Int32)), .val (.int (3 : Int32)), .val (.int (0 : Int32)), .val (.int c0)] [(.int c0), (.int (0 : Int32)), (.ref a2)]))
  refine Gl.pre (fun _ k => XS.i2b X0.here hx rfl (hb hby d10_30) rfl k) ?_
  show Gl p.tables e below PP (s₁.setTop (mkF m 31 #[.val (.ref a1), .val (.int (0 : Int32)), .val (.ref a2), .val (.int (0 : Int32)), .val (.int (3 : Int32)), .val (.int (0 : Int32)), .val (.int c0)] [(.int (c0.toInt8.toInt32)), (.int (0 : Int32)), (.ref a2)]))
  obtain ⟨T1, h1, X1, e1, W1, V1, st1⟩ := own_stB X0 hx hZ e0 V_a2 (j := (0 : Int32)) (i := 0) (by decide) (by decide) (Nat.lt_of_lt_of_eq (by decide : 0 < 3) rfl) (g := (mkF m 31 #[.val (.ref a1), .val (.int (0 : Int32)), .val (.ref a2), .val (.int (0 : Int32)), .val (.int (3 : Int32)), .val (.int (0 : Int32)), .val (.int c0)] [(.int (c0.toInt8.toInt32)), (.int (0 : Int32)), (.ref a2)])) rfl rfl (hb hby d10_31)
  refine Gl.pre (fun _ k => st1 _ k) ?_
  have V_a1 := V_a1.other W1 (own_ne_a1_a2)
  have Z1 : n0 ≤ h1.size := by rw [W1.size]; exact Z0
  have N1 := Fr.snoc X1 N0 g_a2
  have K1 := K0.wr W1 (Or.inl (List.mem_of_getElem? (i := 0) rfl))
  have V_a2 : Bal Z h1 a2 .byte [(nar .byte (c0.toInt8.toInt32)), (0 : Int32), (0 : Int32)] := V1
  show Gl p.tables e below PP (T1.setTop (mkF m 32 #[.val (.ref a1), .val (.int (0 : Int32)), .val (.ref a2), .val (.int (0 : Int32)), .val (.int (3 : Int32)), .val (.int (0 : Int32)), .val (.int c0)] []))
  refine Gl.pre (fun _ k => XS.iinc X1.here hx rfl (hb hby d10_32) rfl (l' := #[.val (.ref a1), .val (.int (1 : Int32)), .val (.ref a2), .val (.int (0 : Int32)), .val (.int (3 : Int32)), .val (.int (0 : Int32)), .val (.int c0)]) rfl k) ?_
  show Gl p.tables e below PP (T1.setTop (mkF m 35 #[.val (.ref a1), .val (.int (1 : Int32)), .val (.ref a2), .val (.int (0 : Int32)), .val (.int (3 : Int32)), .val (.int (0 : Int32)), .val (.int c0)] []))
  refine Gl.pre (fun _ k => XS.iinc X1.here hx rfl (hb hby d10_35) rfl (l' := #[.val (.ref a1), .val (.int (1 : Int32)), .val (.ref a2), .val (.int (1 : Int32)), .val (.int (3 : Int32)), .val (.int (0 : Int32)), .val (.int c0)]) rfl k) ?_
  show Gl p.tables e below PP (T1.setTop (mkF m 38 #[.val (.ref a1), .val (.int (1 : Int32)), .val (.ref a2), .val (.int (1 : Int32)), .val (.int (3 : Int32)), .val (.int (0 : Int32)), .val (.int c0)] []))
  refine Gl.pre (fun _ k => XS.iinc X1.here hx rfl (hb hby d10_38) rfl (l' := #[.val (.ref a1), .val (.int (1 : Int32)), .val (.ref a2), .val (.int (1 : Int32)), .val (.int (3 : Int32)), .val (.int (1 : Int32)), .val (.int c0)]) rfl k) ?_
  show Gl p.tables e below PP (T1.setTop (mkF m 41 #[.val (.ref a1), .val (.int (1 : Int32)), .val (.ref a2), .val (.int (1 : Int32)), .val (.int (3 : Int32)), .val (.int (1 : Int32)), .val (.int c0)] []))
  refine Gl.pre (fun _ k => XS.goto X1.here hx rfl (pc0 := 41) (pc' := 3) rfl (hb hby d10_41) (by decide) (by decide) k) ?_
  show Gl p.tables e below PP (T1.setTop (mkF m 3 #[.val (.ref a1), .val (.int (1 : Int32)), .val (.ref a2), .val (.int (1 : Int32)), .val (.int (3 : Int32)), .val (.int (1 : Int32)), .val (.int c0)] []))
  refine Gl.pre (fun _ k => XS.iload X1.here hx rfl (hb hby d10_3) rfl k) ?_
  show Gl p.tables e below PP (T1.setTop (mkF m 5 #[.val (.ref a1), .val (.int (1 : Int32)), .val (.ref a2), .val (.int (1 : Int32)), .val (.int (3 : Int32)), .val (.int (1 : Int32)), .val (.int c0)] [(.int (1 : Int32))]))
  refine Gl.pre (fun _ k => XS.iload X1.here hx rfl (hb hby d10_5) rfl k) ?_
  show Gl p.tables e below PP (T1.setTop (mkF m 7 #[.val (.ref a1), .val (.int (1 : Int32)), .val (.ref a2), .val (.int (1 : Int32)), .val (.int (3 : Int32)), .val (.int (1 : Int32)), .val (.int c0)] [(.int (3 : Int32)), (.int (1 : Int32))]))
  refine Gl.pre (fun _ k => XS.icmpNo X1.here hx rfl (hb hby d10_7) rfl (tlt (show (1 : Int32) < (3 : Int32) from (by decide))).2.1 k) ?_
  show Gl p.tables e below PP (T1.setTop (mkF m 10 #[.val (.ref a1), .val (.int (1 : Int32)), .val (.ref a2), .val (.int (1 : Int32)), .val (.int (3 : Int32)), .val (.int (1 : Int32)), .val (.int c0)] []))
  refine Gl.pre (fun _ k => XS.aloadN X1.here hx rfl (hb hby d10_10) rfl rfl k) ?_
  show Gl p.tables e below PP (T1.setTop (mkF m 11 #[.val (.ref a1), .val (.int (1 : Int32)), .val (.ref a2), .val (.int (1 : Int32)), .val (.int (3 : Int32)), .val (.int (1 : Int32)), .val (.int c0)] [(.ref a1)]))
  refine Gl.pre (fun _ k => XS.iloadN X1.here hx rfl (hb hby d10_11) rfl k) ?_
  show Gl p.tables e below PP (T1.setTop (mkF m 12 #[.val (.ref a1), .val (.int (1 : Int32)), .val (.ref a2), .val (.int (1 : Int32)), .val (.int (3 : Int32)), .val (.int (1 : Int32)), .val (.int c0)] [(.int (1 : Int32)), (.ref a1)]))
  refine Gl.pre (fun _ k => own_ldC X1 hx hZ e1 V_a1 (j := (1 : Int32)) (i := 1) (by decide) (by decide) (Nat.lt_of_lt_of_eq (by decide : 1 < 3) rfl) (v := c1) rfl (g := (mkF m 12 #[.val (.ref a1), .val (.int (1 : Int32)), .val (.ref a2), .val (.int (1 : Int32)), .val (.int (3 : Int32)), .val (.int (1 : Int32)), .val (.int c0)] [(.int (1 : Int32)), (.ref a1)])) rfl rfl (hb hby d10_12) _ k) ?_
  show Gl p.tables e below PP (T1.setTop (mkF m 13 #[.val (.ref a1), .val (.int (1 : Int32)), .val (.ref a2), .val (.int (1 : Int32)), .val (.int (3 : Int32)), .val (.int (1 : Int32)), .val (.int c0)] [(.int c1)]))
  refine Gl.pre (fun _ k => XS.istore X1.here hx rfl (hb hby d10_13) rfl (l' := #[.val (.ref a1), .val (.int (1 : Int32)), .val (.ref a2), .val (.int (1 : Int32)), .val (.int (3 : Int32)), .val (.int (1 : Int32)), .val (.int c1)]) rfl k) ?_
  show Gl p.tables e below PP (T1.setTop (mkF m 15 #[.val (.ref a1), .val (.int (1 : Int32)), .val (.ref a2), .val (.int (1 : Int32)), .val (.int (3 : Int32)), .val (.int (1 : Int32)), .val (.int c1)] []))
  refine Gl.pre (fun _ k => XS.iload X1.here hx rfl (hb hby d10_15) rfl k) ?_
  show Gl p.tables e below PP (T1.setTop (mkF m 17 #[.val (.ref a1), .val (.int (1 : Int32)), .val (.ref a2), .val (.int (1 : Int32)), .val (.int (3 : Int32)), .val (.int (1 : Int32)), .val (.int c1)] [(.int c1)]))
  refine Gl.pre (fun _ k => XS.sipush X1.here hx rfl (hb hby d10_17) k) ?_
  show Gl p.tables e below PP (T1.setTop (mkF m 20 #[.val (.ref a1), .val (.int (1 : Int32)), .val (.ref a2), .val (.int (1 : Int32)), .val (.int (3 : Int32)), .val (.int (1 : Int32)), .val (.int c1)] [(.int (255 : Int32)), (.int c1)]))
  refine Gl.pre (fun _ k => XS.icmpNo X1.here hx rfl (hb hby d10_20) rfl (tlt (show (255 : Int32) < c1 from hc1)).2.2.2 k) ?_
  show Gl p.tables e below PP (T1.setTop (mkF m 23 #[.val (.ref a1), .val (.int (1 : Int32)), .val (.ref a2), .val (.int (1 : Int32)), .val (.int (3 : Int32)), .val (.int (1 : Int32)), .val (.int c1)] []))
  refine Gl.pre (fun _ k => XS.iload X1.here hx rfl (hb hby d10_23) rfl k) ?_
  show Gl p.tables e below PP (T1.setTop (mkF m 25 #[.val (.ref a1), .val (.int (1 : Int32)), .val (.ref a2), .val (.int (1 : Int32)), .val (.int (3 : Int32)), .val (.int (1 : Int32)), .val (.int c1)] [(.int (1 : Int32))]))
  rw [hPP]
  refine own_finI (Q := (Qcz3_1 Z a1 a2 c0 c1 c2 h0 n0)) X1 hx hlk Bd.returns (hb hby d10_25) ?_ (by decide) (by decide)
  show Qcz3_1 Z a1 a2 c0 c1 c2 h0 n0 _ T1.heap _
  rw [e1]
  exact ⟨rfl, N1, K1, _, rfl, V_a2⟩
theorem ef_cz3_2 (m : MethodId) (a1 : Addr) (a2 : Addr) (c0 : Int32) (c1 : Int32) (c2 : Int32) : entryFrame m #[(.ref a1), (.int (0 : Int32)), (.ref a2), (.int (0 : Int32)), (.int (3 : Int32))] 7 = mkF m 0 #[.val (.ref a1), .val (.int (0 : Int32)), .val (.ref a2), .val (.int (0 : Int32)), .val (.int (3 : Int32)), .unset, .unset] [] := by first | (simp [entryFrame, mkF, argsToLocals, Value.category]; done) | rfl
def Qcz3_2 (Z : State) (a1 : Addr) (a2 : Addr) (c0 : Int32) (c1 : Int32) (c2 : Int32) (h0 : Heap) (n0 : Nat) (v : Option Value) (h : Heap) (L : List Loc) : Prop := v = some (.int (2 : Int32)) ∧ Fr n0 L ∧ Keep h0 h [a2] ∧ ∃ ys : List Int32, ys.length = 3 ∧ Bal Z h a2 .byte ys
set_option maxRecDepth 65536 in
set_option maxHeartbeats 40000000 in
theorem rmcz3_2 (l : Launch) (Z : State) (a0 : Array Value) (hw : ∀ d ∈ tables_1, d.before a0 Z = true) (ws : List Jvm.Cond) (a1 : Addr) (a2 : Addr) (c0 : Int32) (c1 : Int32) (c2 : Int32) (h0 : Heap) (n0 : Nat) (Z0 : n0 ≤ h0.size) (V_a1 : Bal Z h0 a1 .char [c0, c1, c2]) (V_a2 : Bal Z h0 a2 .byte [(0 : Int32), (0 : Int32), (0 : Int32)]) (g_a2 : n0 ≤ a2) (own_ne_a1_a2 : a1 ≠ a2) (own_ne_a2_a1 : a2 ≠ a1) (hc0 : ¬ ((255 : Int32) < c0)) (hc1 : ¬ ((255 : Int32) < c1)) (hc2 : (255 : Int32) < c2) :
    MetFree l (⟨"java/lang/StringUTF16", "compress", "([CI[BII)I"⟩ : MethodName) (head1 (Jvm.Cond.code (⟨"java/lang/StringUTF16", "compress", "([CI[BII)I"⟩ : MethodName) jdk_52_method_21_code 7 (some .int) :: ws) ({ frames := 0, cells := 0, slots := 0, locals := 0 } : Room)) (fun a U => a = #[(.ref a1), (.int (0 : Int32)), (.ref a2), (.int (0 : Int32)), (.int (3 : Int32))] ∧ Z.Warmed39 U.vm ∧ U.heap = h0) (fun _ _ _ _ _ => True) (fun _ U o U' => ∃ v L, o = .returned v ∧ Qcz3_2 Z a1 a2 c0 c1 c2 h0 n0 v U'.heap L ∧ FrameEnd U o U' L ({ frames := 0, cells := 0, slots := 0, locals := 0 } : Room).cells ({ frames := 0, cells := 0, slots := 0, locals := 0 } : Room).slots) := by
  refine MetFree.of_bodySF (plainFor_of_name pn_10) hisR ?_
  intro p e s m args below meth c s₁ Bd hml0 hP hK
  obtain ⟨rfl, hZ, hh⟩ := hP
  have hx := Bd.exec
  have hby := Bd.bytes
  have hlk : meth.locks = false := BodyLoose.notSynchronized Bd
  have hml : c.maxLocals = 7 := hml0
  have hown : s.vm.findClass "java/lang/StringUTF16" = some m.cls := findClass_of_methodNamed Bd.named
  have hnm := (name_of_methodNamed Bd.named Bd.method).1
  have X0 : Stand p l e ({ frames := 0, cells := 0, slots := 0, locals := 0 } : Room) s m #[(.ref a1), (.int (0 : Int32)), (.ref a2), (.int (0 : Int32)), (.int (3 : Int32))] below meth c s₁ [] 0 0 := Stand.of_body Bd
  have e0 : s₁.heap = h0 := by rw [← hh, Bd.state]; rfl
  have N0 := Fr.nil n0
  show Gl p.tables e below (fun (o : Outcome) (U' : State) => ∃ v L, o = .returned v ∧ Qcz3_2 Z a1 a2 c0 c1 c2 h0 n0 v U'.heap L ∧ FrameEnd s o U' L ({ frames := 0, cells := 0, slots := 0, locals := 0 } : Room).cells ({ frames := 0, cells := 0, slots := 0, locals := 0 } : Room).slots) _
  refine Gl.pre (fun t k => castTop (ef_cz3_2 m a1 a2 c0 c1 c2) k) ?_
  obtain ⟨PP, hPP⟩ : ∃ P : Outcome → State → Prop, P = (fun (o : Outcome) (U' : State) => ∃ v L, o = .returned v ∧ Qcz3_2 Z a1 a2 c0 c1 c2 h0 n0 v U'.heap L ∧ FrameEnd s o U' L ({ frames := 0, cells := 0, slots := 0, locals := 0 } : Room).cells ({ frames := 0, cells := 0, slots := 0, locals := 0 } : Room).slots) := ⟨_, rfl⟩
  rw [← hPP]
  have K0 : Keep h0 h0 [a2] := Keep.refl h0 _
  show Gl p.tables e below PP (s₁.setTop (mkF m 0 #[.val (.ref a1), .val (.int (0 : Int32)), .val (.ref a2), .val (.int (0 : Int32)), .val (.int (3 : Int32)), .unset, .unset] []))
  refine Gl.pre (fun _ k => XS.iconst X0.here hx rfl (hb hby d10_0) k) ?_
  show Gl p.tables e below PP (s₁.setTop (mkF m 1 #[.val (.ref a1), .val (.int (0 : Int32)), .val (.ref a2), .val (.int (0 : Int32)), .val (.int (3 : Int32)), .unset, .unset] [(.int (0 : Int32))]))
  refine Gl.pre (fun _ k => XS.istore X0.here hx rfl (hb hby d10_1) rfl (l' := #[.val (.ref a1), .val (.int (0 : Int32)), .val (.ref a2), .val (.int (0 : Int32)), .val (.int (3 : Int32)), .val (.int (0 : Int32)), .unset]) rfl k) ?_
  show Gl p.tables e below PP (s₁.setTop (mkF m 3 #[.val (.ref a1), .val (.int (0 : Int32)), .val (.ref a2), .val (.int (0 : Int32)), .val (.int (3 : Int32)), .val (.int (0 : Int32)), .unset] []))
  refine Gl.pre (fun _ k => XS.iload X0.here hx rfl (hb hby d10_3) rfl k) ?_
  show Gl p.tables e below PP (s₁.setTop (mkF m 5 #[.val (.ref a1), .val (.int (0 : Int32)), .val (.ref a2), .val (.int (0 : Int32)), .val (.int (3 : Int32)), .val (.int (0 : Int32)), .unset] [(.int (0 : Int32))]))
  refine Gl.pre (fun _ k => XS.iload X0.here hx rfl (hb hby d10_5) rfl k) ?_
  show Gl p.tables e below PP (s₁.setTop (mkF m 7 #[.val (.ref a1), .val (.int (0 : Int32)), .val (.ref a2), .val (.int (0 : Int32)), .val (.int (3 : Int32)), .val (.int (0 : Int32)), .unset] [(.int (3 : Int32)), (.int (0 : Int32))]))
  refine Gl.pre (fun _ k => XS.icmpNo X0.here hx rfl (hb hby d10_7) rfl (tlt (show (0 : Int32) < (3 : Int32) from (by decide))).2.1 k) ?_
  show Gl p.tables e below PP (s₁.setTop (mkF m 10 #[.val (.ref a1), .val (.int (0 : Int32)), .val (.ref a2), .val (.int (0 : Int32)), .val (.int (3 : Int32)), .val (.int (0 : Int32)), .unset] []))
  refine Gl.pre (fun _ k => XS.aloadN X0.here hx rfl (hb hby d10_10) rfl rfl k) ?_
  show Gl p.tables e below PP (s₁.setTop (mkF m 11 #[.val (.ref a1), .val (.int (0 : Int32)), .val (.ref a2), .val (.int (0 : Int32)), .val (.int (3 : Int32)), .val (.int (0 : Int32)), .unset] [(.ref a1)]))
  refine Gl.pre (fun _ k => XS.iloadN X0.here hx rfl (hb hby d10_11) rfl k) ?_
  show Gl p.tables e below PP (s₁.setTop (mkF m 12 #[.val (.ref a1), .val (.int (0 : Int32)), .val (.ref a2), .val (.int (0 : Int32)), .val (.int (3 : Int32)), .val (.int (0 : Int32)), .unset] [(.int (0 : Int32)), (.ref a1)]))
  refine Gl.pre (fun _ k => own_ldC X0 hx hZ e0 V_a1 (j := (0 : Int32)) (i := 0) (by decide) (by decide) (Nat.lt_of_lt_of_eq (by decide : 0 < 3) rfl) (v := c0) rfl (g := (mkF m 12 #[.val (.ref a1), .val (.int (0 : Int32)), .val (.ref a2), .val (.int (0 : Int32)), .val (.int (3 : Int32)), .val (.int (0 : Int32)), .unset] [(.int (0 : Int32)), (.ref a1)])) rfl rfl (hb hby d10_12) _ k) ?_
  show Gl p.tables e below PP (s₁.setTop (mkF m 13 #[.val (.ref a1), .val (.int (0 : Int32)), .val (.ref a2), .val (.int (0 : Int32)), .val (.int (3 : Int32)), .val (.int (0 : Int32)), .unset] [(.int c0)]))
  refine Gl.pre (fun _ k => XS.istore X0.here hx rfl (hb hby d10_13) rfl (l' := #[.val (.ref a1), .val (.int (0 : Int32)), .val (.ref a2), .val (.int (0 : Int32)), .val (.int (3 : Int32)), .val (.int (0 : Int32)), .val (.int c0)]) rfl k) ?_
  show Gl p.tables e below PP (s₁.setTop (mkF m 15 #[.val (.ref a1), .val (.int (0 : Int32)), .val (.ref a2), .val (.int (0 : Int32)), .val (.int (3 : Int32)), .val (.int (0 : Int32)), .val (.int c0)] []))
  refine Gl.pre (fun _ k => XS.iload X0.here hx rfl (hb hby d10_15) rfl k) ?_
  show Gl p.tables e below PP (s₁.setTop (mkF m 17 #[.val (.ref a1), .val (.int (0 : Int32)), .val (.ref a2), .val (.int (0 : Int32)), .val (.int (3 : Int32)), .val (.int (0 : Int32)), .val (.int c0)] [(.int c0)]))
  refine Gl.pre (fun _ k => XS.sipush X0.here hx rfl (hb hby d10_17) k) ?_
  show Gl p.tables e below PP (s₁.setTop (mkF m 20 #[.val (.ref a1), .val (.int (0 : Int32)), .val (.ref a2), .val (.int (0 : Int32)), .val (.int (3 : Int32)), .val (.int (0 : Int32)), .val (.int c0)] [(.int (255 : Int32)), (.int c0)]))
  refine Gl.pre (fun _ k => XS.icmpYes X0.here hx rfl (pc0 := 20) (pc' := 26) rfl (hb hby d10_20) rfl (flt (show ¬ ((255 : Int32) < c0) from hc0)).2.2.2 (by decide) (by decide) k) ?_
  show Gl p.tables e below PP (s₁.setTop (mkF m 26 #[.val (.ref a1), .val (.int (0 : Int32)), .val (.ref a2), .val (.int (0 : Int32)), .val (.int (3 : Int32)), .val (.int (0 : Int32)), .val (.int c0)] []))
  refine Gl.pre (fun _ k => XS.aloadN X0.here hx rfl (hb hby d10_26) rfl rfl k) ?_
  show Gl p.tables e below PP (s₁.setTop (mkF m 27 #[.val (.ref a1), .val (.int (0 : Int32)), .val (.ref a2), .val (.int (0 : Int32)), .val (.int (3 : Int32)), .val (.int (0 : Int32)), .val (.int c0)] [(.ref a2)]))
  refine Gl.pre (fun _ k => XS.iloadN X0.here hx rfl (hb hby d10_27) rfl k) ?_
  show Gl p.tables e below PP (s₁.setTop (mkF m 28 #[.val (.ref a1), .val (.int (0 : Int32)), .val (.ref a2), .val (.int (0 : Int32)), .val (.int (3 : Int32)), .val (.int (0 : Int32)), .val (.int c0)] [(.int (0 : Int32)), (.ref a2)]))
  refine Gl.pre (fun _ k => XS.iload X0.here hx rfl (hb hby d10_28) rfl k) ?_
  show Gl p.tables e below PP (s₁.setTop (mkF m 30 #[.val (.ref a1), .val (.int (0 : Int32)), .val (.ref a2), .val (.int (0 : Int32)), .val (.int (3 : Int32)), .val (.int (0 : Int32)), .val (.int c0)] [(.int c0), (.int (0 : Int32)), (.ref a2)]))
  refine Gl.pre (fun _ k => XS.i2b X0.here hx rfl (hb hby d10_30) rfl k) ?_
  show Gl p.tables e below PP (s₁.setTop (mkF m 31 #[.val (.ref a1), .val (.int (0 : Int32)), .val (.ref a2), .val (.int (0 : Int32)), .val (.int (3 : Int32)), .val (.int (0 : Int32)), .val (.int c0)] [(.int (c0.toInt8.toInt32)), (.int (0 : Int32)), (.ref a2)]))
  obtain ⟨T1, h1, X1, e1, W1, V1, st1⟩ := own_stB X0 hx hZ e0 V_a2 (j := (0 : Int32)) (i := 0) (by decide) (by decide) (Nat.lt_of_lt_of_eq (by decide : 0 < 3) rfl) (g := (mkF m 31 #[.val (.ref a1), .val (.int (0 : Int32)), .val (.ref a2), .val (.int (0 : Int32)), .val (.int (3 : Int32)), .val (.int (0 : Int32)), .val (.int c0)] [(.int (c0.toInt8.toInt32)), (.int (0 : Int32)), (.ref a2)])) rfl rfl (hb hby d10_31)
  refine Gl.pre (fun _ k => st1 _ k) ?_
  have V_a1 := V_a1.other W1 (own_ne_a1_a2)
  have Z1 : n0 ≤ h1.size := by rw [W1.size]; exact Z0
  have N1 := Fr.snoc X1 N0 g_a2
  have K1 := K0.wr W1 (Or.inl (List.mem_of_getElem? (i := 0) rfl))
  have V_a2 : Bal Z h1 a2 .byte [(nar .byte (c0.toInt8.toInt32)), (0 : Int32), (0 : Int32)] := V1
  show Gl p.tables e below PP (T1.setTop (mkF m 32 #[.val (.ref a1), .val (.int (0 : Int32)), .val (.ref a2), .val (.int (0 : Int32)), .val (.int (3 : Int32)), .val (.int (0 : Int32)), .val (.int c0)] []))
  refine Gl.pre (fun _ k => XS.iinc X1.here hx rfl (hb hby d10_32) rfl (l' := #[.val (.ref a1), .val (.int (1 : Int32)), .val (.ref a2), .val (.int (0 : Int32)), .val (.int (3 : Int32)), .val (.int (0 : Int32)), .val (.int c0)]) rfl k) ?_
  show Gl p.tables e below PP (T1.setTop (mkF m 35 #[.val (.ref a1), .val (.int (1 : Int32)), .val (.ref a2), .val (.int (0 : Int32)), .val (.int (3 : Int32)), .val (.int (0 : Int32)), .val (.int c0)] []))
  refine Gl.pre (fun _ k => XS.iinc X1.here hx rfl (hb hby d10_35) rfl (l' := #[.val (.ref a1), .val (.int (1 : Int32)), .val (.ref a2), .val (.int (1 : Int32)), .val (.int (3 : Int32)), .val (.int (0 : Int32)), .val (.int c0)]) rfl k) ?_
  show Gl p.tables e below PP (T1.setTop (mkF m 38 #[.val (.ref a1), .val (.int (1 : Int32)), .val (.ref a2), .val (.int (1 : Int32)), .val (.int (3 : Int32)), .val (.int (0 : Int32)), .val (.int c0)] []))
  refine Gl.pre (fun _ k => XS.iinc X1.here hx rfl (hb hby d10_38) rfl (l' := #[.val (.ref a1), .val (.int (1 : Int32)), .val (.ref a2), .val (.int (1 : Int32)), .val (.int (3 : Int32)), .val (.int (1 : Int32)), .val (.int c0)]) rfl k) ?_
  show Gl p.tables e below PP (T1.setTop (mkF m 41 #[.val (.ref a1), .val (.int (1 : Int32)), .val (.ref a2), .val (.int (1 : Int32)), .val (.int (3 : Int32)), .val (.int (1 : Int32)), .val (.int c0)] []))
  refine Gl.pre (fun _ k => XS.goto X1.here hx rfl (pc0 := 41) (pc' := 3) rfl (hb hby d10_41) (by decide) (by decide) k) ?_
  show Gl p.tables e below PP (T1.setTop (mkF m 3 #[.val (.ref a1), .val (.int (1 : Int32)), .val (.ref a2), .val (.int (1 : Int32)), .val (.int (3 : Int32)), .val (.int (1 : Int32)), .val (.int c0)] []))
  refine Gl.pre (fun _ k => XS.iload X1.here hx rfl (hb hby d10_3) rfl k) ?_
  show Gl p.tables e below PP (T1.setTop (mkF m 5 #[.val (.ref a1), .val (.int (1 : Int32)), .val (.ref a2), .val (.int (1 : Int32)), .val (.int (3 : Int32)), .val (.int (1 : Int32)), .val (.int c0)] [(.int (1 : Int32))]))
  refine Gl.pre (fun _ k => XS.iload X1.here hx rfl (hb hby d10_5) rfl k) ?_
  show Gl p.tables e below PP (T1.setTop (mkF m 7 #[.val (.ref a1), .val (.int (1 : Int32)), .val (.ref a2), .val (.int (1 : Int32)), .val (.int (3 : Int32)), .val (.int (1 : Int32)), .val (.int c0)] [(.int (3 : Int32)), (.int (1 : Int32))]))
  refine Gl.pre (fun _ k => XS.icmpNo X1.here hx rfl (hb hby d10_7) rfl (tlt (show (1 : Int32) < (3 : Int32) from (by decide))).2.1 k) ?_
  show Gl p.tables e below PP (T1.setTop (mkF m 10 #[.val (.ref a1), .val (.int (1 : Int32)), .val (.ref a2), .val (.int (1 : Int32)), .val (.int (3 : Int32)), .val (.int (1 : Int32)), .val (.int c0)] []))
  refine Gl.pre (fun _ k => XS.aloadN X1.here hx rfl (hb hby d10_10) rfl rfl k) ?_
  show Gl p.tables e below PP (T1.setTop (mkF m 11 #[.val (.ref a1), .val (.int (1 : Int32)), .val (.ref a2), .val (.int (1 : Int32)), .val (.int (3 : Int32)), .val (.int (1 : Int32)), .val (.int c0)] [(.ref a1)]))
  refine Gl.pre (fun _ k => XS.iloadN X1.here hx rfl (hb hby d10_11) rfl k) ?_
  show Gl p.tables e below PP (T1.setTop (mkF m 12 #[.val (.ref a1), .val (.int (1 : Int32)), .val (.ref a2), .val (.int (1 : Int32)), .val (.int (3 : Int32)), .val (.int (1 : Int32)), .val (.int c0)] [(.int (1 : Int32)), (.ref a1)]))
  refine Gl.pre (fun _ k => own_ldC X1 hx hZ e1 V_a1 (j := (1 : Int32)) (i := 1) (by decide) (by decide) (Nat.lt_of_lt_of_eq (by decide : 1 < 3) rfl) (v := c1) rfl (g := (mkF m 12 #[.val (.ref a1), .val (.int (1 : Int32)), .val (.ref a2), .val (.int (1 : Int32)), .val (.int (3 : Int32)), .val (.int (1 : Int32)), .val (.int c0)] [(.int (1 : Int32)), (.ref a1)])) rfl rfl (hb hby d10_12) _ k) ?_
  show Gl p.tables e below PP (T1.setTop (mkF m 13 #[.val (.ref a1), .val (.int (1 : Int32)), .val (.ref a2), .val (.int (1 : Int32)), .val (.int (3 : Int32)), .val (.int (1 : Int32)), .val (.int c0)] [(.int c1)]))
  refine Gl.pre (fun _ k => XS.istore X1.here hx rfl (hb hby d10_13) rfl (l' := #[.val (.ref a1), .val (.int (1 : Int32)), .val (.ref a2), .val (.int (1 : Int32)), .val (.int (3 : Int32)), .val (.int (1 : Int32)), .val (.int c1)]) rfl k) ?_
  show Gl p.tables e below PP (T1.setTop (mkF m 15 #[.val (.ref a1), .val (.int (1 : Int32)), .val (.ref a2), .val (.int (1 : Int32)), .val (.int (3 : Int32)), .val (.int (1 : Int32)), .val (.int c1)] []))
  refine Gl.pre (fun _ k => XS.iload X1.here hx rfl (hb hby d10_15) rfl k) ?_
  show Gl p.tables e below PP (T1.setTop (mkF m 17 #[.val (.ref a1), .val (.int (1 : Int32)), .val (.ref a2), .val (.int (1 : Int32)), .val (.int (3 : Int32)), .val (.int (1 : Int32)), .val (.int c1)] [(.int c1)]))
  refine Gl.pre (fun _ k => XS.sipush X1.here hx rfl (hb hby d10_17) k) ?_
  show Gl p.tables e below PP (T1.setTop (mkF m 20 #[.val (.ref a1), .val (.int (1 : Int32)), .val (.ref a2), .val (.int (1 : Int32)), .val (.int (3 : Int32)), .val (.int (1 : Int32)), .val (.int c1)] [(.int (255 : Int32)), (.int c1)]))
  refine Gl.pre (fun _ k => XS.icmpYes X1.here hx rfl (pc0 := 20) (pc' := 26) rfl (hb hby d10_20) rfl (flt (show ¬ ((255 : Int32) < c1) from hc1)).2.2.2 (by decide) (by decide) k) ?_
  show Gl p.tables e below PP (T1.setTop (mkF m 26 #[.val (.ref a1), .val (.int (1 : Int32)), .val (.ref a2), .val (.int (1 : Int32)), .val (.int (3 : Int32)), .val (.int (1 : Int32)), .val (.int c1)] []))
  refine Gl.pre (fun _ k => XS.aloadN X1.here hx rfl (hb hby d10_26) rfl rfl k) ?_
  show Gl p.tables e below PP (T1.setTop (mkF m 27 #[.val (.ref a1), .val (.int (1 : Int32)), .val (.ref a2), .val (.int (1 : Int32)), .val (.int (3 : Int32)), .val (.int (1 : Int32)), .val (.int c1)] [(.ref a2)]))
  refine Gl.pre (fun _ k => XS.iloadN X1.here hx rfl (hb hby d10_27) rfl k) ?_
  show Gl p.tables e below PP (T1.setTop (mkF m 28 #[.val (.ref a1), .val (.int (1 : Int32)), .val (.ref a2), .val (.int (1 : Int32)), .val (.int (3 : Int32)), .val (.int (1 : Int32)), .val (.int c1)] [(.int (1 : Int32)), (.ref a2)]))
  refine Gl.pre (fun _ k => XS.iload X1.here hx rfl (hb hby d10_28) rfl k) ?_
  show Gl p.tables e below PP (T1.setTop (mkF m 30 #[.val (.ref a1), .val (.int (1 : Int32)), .val (.ref a2), .val (.int (1 : Int32)), .val (.int (3 : Int32)), .val (.int (1 : Int32)), .val (.int c1)] [(.int c1), (.int (1 : Int32)), (.ref a2)]))
  refine Gl.pre (fun _ k => XS.i2b X1.here hx rfl (hb hby d10_30) rfl k) ?_
  show Gl p.tables e below PP (T1.setTop (mkF m 31 #[.val (.ref a1), .val (.int (1 : Int32)), .val (.ref a2), .val (.int (1 : Int32)), .val (.int (3 : Int32)), .val (.int (1 : Int32)), .val (.int c1)] [(.int (c1.toInt8.toInt32)), (.int (1 : Int32)), (.ref a2)]))
  obtain ⟨T2, h2, X2, e2, W2, V2, st2⟩ := own_stB X1 hx hZ e1 V_a2 (j := (1 : Int32)) (i := 1) (by decide) (by decide) (Nat.lt_of_lt_of_eq (by decide : 1 < 3) rfl) (g := (mkF m 31 #[.val (.ref a1), .val (.int (1 : Int32)), .val (.ref a2), .val (.int (1 : Int32)), .val (.int (3 : Int32)), .val (.int (1 : Int32)), .val (.int c1)] [(.int (c1.toInt8.toInt32)), (.int (1 : Int32)), (.ref a2)])) rfl rfl (hb hby d10_31)
  refine Gl.pre (fun _ k => st2 _ k) ?_
  have V_a1 := V_a1.other W2 (own_ne_a1_a2)
  have Z2 : n0 ≤ h2.size := by rw [W2.size]; exact Z1
  have N2 := Fr.snoc X2 N1 g_a2
  have K2 := K1.wr W2 (Or.inl (List.mem_of_getElem? (i := 0) rfl))
  have V_a2 : Bal Z h2 a2 .byte [(nar .byte (c0.toInt8.toInt32)), (nar .byte (c1.toInt8.toInt32)), (0 : Int32)] := V2
  show Gl p.tables e below PP (T2.setTop (mkF m 32 #[.val (.ref a1), .val (.int (1 : Int32)), .val (.ref a2), .val (.int (1 : Int32)), .val (.int (3 : Int32)), .val (.int (1 : Int32)), .val (.int c1)] []))
  refine Gl.pre (fun _ k => XS.iinc X2.here hx rfl (hb hby d10_32) rfl (l' := #[.val (.ref a1), .val (.int (2 : Int32)), .val (.ref a2), .val (.int (1 : Int32)), .val (.int (3 : Int32)), .val (.int (1 : Int32)), .val (.int c1)]) rfl k) ?_
  show Gl p.tables e below PP (T2.setTop (mkF m 35 #[.val (.ref a1), .val (.int (2 : Int32)), .val (.ref a2), .val (.int (1 : Int32)), .val (.int (3 : Int32)), .val (.int (1 : Int32)), .val (.int c1)] []))
  refine Gl.pre (fun _ k => XS.iinc X2.here hx rfl (hb hby d10_35) rfl (l' := #[.val (.ref a1), .val (.int (2 : Int32)), .val (.ref a2), .val (.int (2 : Int32)), .val (.int (3 : Int32)), .val (.int (1 : Int32)), .val (.int c1)]) rfl k) ?_
  show Gl p.tables e below PP (T2.setTop (mkF m 38 #[.val (.ref a1), .val (.int (2 : Int32)), .val (.ref a2), .val (.int (2 : Int32)), .val (.int (3 : Int32)), .val (.int (1 : Int32)), .val (.int c1)] []))
  refine Gl.pre (fun _ k => XS.iinc X2.here hx rfl (hb hby d10_38) rfl (l' := #[.val (.ref a1), .val (.int (2 : Int32)), .val (.ref a2), .val (.int (2 : Int32)), .val (.int (3 : Int32)), .val (.int (2 : Int32)), .val (.int c1)]) rfl k) ?_
  show Gl p.tables e below PP (T2.setTop (mkF m 41 #[.val (.ref a1), .val (.int (2 : Int32)), .val (.ref a2), .val (.int (2 : Int32)), .val (.int (3 : Int32)), .val (.int (2 : Int32)), .val (.int c1)] []))
  refine Gl.pre (fun _ k => XS.goto X2.here hx rfl (pc0 := 41) (pc' := 3) rfl (hb hby d10_41) (by decide) (by decide) k) ?_
  show Gl p.tables e below PP (T2.setTop (mkF m 3 #[.val (.ref a1), .val (.int (2 : Int32)), .val (.ref a2), .val (.int (2 : Int32)), .val (.int (3 : Int32)), .val (.int (2 : Int32)), .val (.int c1)] []))
  refine Gl.pre (fun _ k => XS.iload X2.here hx rfl (hb hby d10_3) rfl k) ?_
  show Gl p.tables e below PP (T2.setTop (mkF m 5 #[.val (.ref a1), .val (.int (2 : Int32)), .val (.ref a2), .val (.int (2 : Int32)), .val (.int (3 : Int32)), .val (.int (2 : Int32)), .val (.int c1)] [(.int (2 : Int32))]))
  refine Gl.pre (fun _ k => XS.iload X2.here hx rfl (hb hby d10_5) rfl k) ?_
  show Gl p.tables e below PP (T2.setTop (mkF m 7 #[.val (.ref a1), .val (.int (2 : Int32)), .val (.ref a2), .val (.int (2 : Int32)), .val (.int (3 : Int32)), .val (.int (2 : Int32)), .val (.int c1)] [(.int (3 : Int32)), (.int (2 : Int32))]))
  refine Gl.pre (fun _ k => XS.icmpNo X2.here hx rfl (hb hby d10_7) rfl (tlt (show (2 : Int32) < (3 : Int32) from (by decide))).2.1 k) ?_
  show Gl p.tables e below PP (T2.setTop (mkF m 10 #[.val (.ref a1), .val (.int (2 : Int32)), .val (.ref a2), .val (.int (2 : Int32)), .val (.int (3 : Int32)), .val (.int (2 : Int32)), .val (.int c1)] []))
  refine Gl.pre (fun _ k => XS.aloadN X2.here hx rfl (hb hby d10_10) rfl rfl k) ?_
  show Gl p.tables e below PP (T2.setTop (mkF m 11 #[.val (.ref a1), .val (.int (2 : Int32)), .val (.ref a2), .val (.int (2 : Int32)), .val (.int (3 : Int32)), .val (.int (2 : Int32)), .val (.int c1)] [(.ref a1)]))
  refine Gl.pre (fun _ k => XS.iloadN X2.here hx rfl (hb hby d10_11) rfl k) ?_
  show Gl p.tables e below PP (T2.setTop (mkF m 12 #[.val (.ref a1), .val (.int (2 : Int32)), .val (.ref a2), .val (.int (2 : Int32)), .val (.int (3 : Int32)), .val (.int (2 : Int32)), .val (.int c1)] [(.int (2 : Int32)), (.ref a1)]))
  refine Gl.pre (fun _ k => own_ldC X2 hx hZ e2 V_a1 (j := (2 : Int32)) (i := 2) (by decide) (by decide) (Nat.lt_of_lt_of_eq (by decide : 2 < 3) rfl) (v := c2) rfl (g := (mkF m 12 #[.val (.ref a1), .val (.int (2 : Int32)), .val (.ref a2), .val (.int (2 : Int32)), .val (.int (3 : Int32)), .val (.int (2 : Int32)), .val (.int c1)] [(.int (2 : Int32)), (.ref a1)])) rfl rfl (hb hby d10_12) _ k) ?_
  show Gl p.tables e below PP (T2.setTop (mkF m 13 #[.val (.ref a1), .val (.int (2 : Int32)), .val (.ref a2), .val (.int (2 : Int32)), .val (.int (3 : Int32)), .val (.int (2 : Int32)), .val (.int c1)] [(.int c2)]))
  refine Gl.pre (fun _ k => XS.istore X2.here hx rfl (hb hby d10_13) rfl (l' := #[.val (.ref a1), .val (.int (2 : Int32)), .val (.ref a2), .val (.int (2 : Int32)), .val (.int (3 : Int32)), .val (.int (2 : Int32)), .val (.int c2)]) rfl k) ?_
  show Gl p.tables e below PP (T2.setTop (mkF m 15 #[.val (.ref a1), .val (.int (2 : Int32)), .val (.ref a2), .val (.int (2 : Int32)), .val (.int (3 : Int32)), .val (.int (2 : Int32)), .val (.int c2)] []))
  refine Gl.pre (fun _ k => XS.iload X2.here hx rfl (hb hby d10_15) rfl k) ?_
  show Gl p.tables e below PP (T2.setTop (mkF m 17 #[.val (.ref a1), .val (.int (2 : Int32)), .val (.ref a2), .val (.int (2 : Int32)), .val (.int (3 : Int32)), .val (.int (2 : Int32)), .val (.int c2)] [(.int c2)]))
  refine Gl.pre (fun _ k => XS.sipush X2.here hx rfl (hb hby d10_17) k) ?_
  show Gl p.tables e below PP (T2.setTop (mkF m 20 #[.val (.ref a1), .val (.int (2 : Int32)), .val (.ref a2), .val (.int (2 : Int32)), .val (.int (3 : Int32)), .val (.int (2 : Int32)), .val (.int c2)] [(.int (255 : Int32)), (.int c2)]))
  refine Gl.pre (fun _ k => XS.icmpNo X2.here hx rfl (hb hby d10_20) rfl (tlt (show (255 : Int32) < c2 from hc2)).2.2.2 k) ?_
  show Gl p.tables e below PP (T2.setTop (mkF m 23 #[.val (.ref a1), .val (.int (2 : Int32)), .val (.ref a2), .val (.int (2 : Int32)), .val (.int (3 : Int32)), .val (.int (2 : Int32)), .val (.int c2)] []))
  refine Gl.pre (fun _ k => XS.iload X2.here hx rfl (hb hby d10_23) rfl k) ?_
  show Gl p.tables e below PP (T2.setTop (mkF m 25 #[.val (.ref a1), .val (.int (2 : Int32)), .val (.ref a2), .val (.int (2 : Int32)), .val (.int (3 : Int32)), .val (.int (2 : Int32)), .val (.int c2)] [(.int (2 : Int32))]))
  rw [hPP]
  refine own_finI (Q := (Qcz3_2 Z a1 a2 c0 c1 c2 h0 n0)) X2 hx hlk Bd.returns (hb hby d10_25) ?_ (by decide) (by decide)
  show Qcz3_2 Z a1 a2 c0 c1 c2 h0 n0 _ T2.heap _
  rw [e2]
  exact ⟨rfl, N2, K2, _, rfl, V_a2⟩
theorem ef_cz3_3 (m : MethodId) (a1 : Addr) (a2 : Addr) (c0 : Int32) (c1 : Int32) (c2 : Int32) : entryFrame m #[(.ref a1), (.int (0 : Int32)), (.ref a2), (.int (0 : Int32)), (.int (3 : Int32))] 7 = mkF m 0 #[.val (.ref a1), .val (.int (0 : Int32)), .val (.ref a2), .val (.int (0 : Int32)), .val (.int (3 : Int32)), .unset, .unset] [] := by first | (simp [entryFrame, mkF, argsToLocals, Value.category]; done) | rfl
def Qcz3_3 (Z : State) (a1 : Addr) (a2 : Addr) (c0 : Int32) (c1 : Int32) (c2 : Int32) (h0 : Heap) (n0 : Nat) (v : Option Value) (h : Heap) (L : List Loc) : Prop := v = some (.int (3 : Int32)) ∧ Fr n0 L ∧ Keep h0 h [a2] ∧ ∃ ys : List Int32, ys.length = 3 ∧ Bal Z h a2 .byte ys
set_option maxRecDepth 65536 in
set_option maxHeartbeats 40000000 in
theorem rmcz3_3 (l : Launch) (Z : State) (a0 : Array Value) (hw : ∀ d ∈ tables_1, d.before a0 Z = true) (ws : List Jvm.Cond) (a1 : Addr) (a2 : Addr) (c0 : Int32) (c1 : Int32) (c2 : Int32) (h0 : Heap) (n0 : Nat) (Z0 : n0 ≤ h0.size) (V_a1 : Bal Z h0 a1 .char [c0, c1, c2]) (V_a2 : Bal Z h0 a2 .byte [(0 : Int32), (0 : Int32), (0 : Int32)]) (g_a2 : n0 ≤ a2) (own_ne_a1_a2 : a1 ≠ a2) (own_ne_a2_a1 : a2 ≠ a1) (hc0 : ¬ ((255 : Int32) < c0)) (hc1 : ¬ ((255 : Int32) < c1)) (hc2 : ¬ ((255 : Int32) < c2)) :
    MetFree l (⟨"java/lang/StringUTF16", "compress", "([CI[BII)I"⟩ : MethodName) (head1 (Jvm.Cond.code (⟨"java/lang/StringUTF16", "compress", "([CI[BII)I"⟩ : MethodName) jdk_52_method_21_code 7 (some .int) :: ws) ({ frames := 0, cells := 0, slots := 0, locals := 0 } : Room)) (fun a U => a = #[(.ref a1), (.int (0 : Int32)), (.ref a2), (.int (0 : Int32)), (.int (3 : Int32))] ∧ Z.Warmed39 U.vm ∧ U.heap = h0) (fun _ _ _ _ _ => True) (fun _ U o U' => ∃ v L, o = .returned v ∧ Qcz3_3 Z a1 a2 c0 c1 c2 h0 n0 v U'.heap L ∧ FrameEnd U o U' L ({ frames := 0, cells := 0, slots := 0, locals := 0 } : Room).cells ({ frames := 0, cells := 0, slots := 0, locals := 0 } : Room).slots) := by
  refine MetFree.of_bodySF (plainFor_of_name pn_10) hisR ?_
  intro p e s m args below meth c s₁ Bd hml0 hP hK
  obtain ⟨rfl, hZ, hh⟩ := hP
  have hx := Bd.exec
  have hby := Bd.bytes
  have hlk : meth.locks = false := BodyLoose.notSynchronized Bd
  have hml : c.maxLocals = 7 := hml0
  have hown : s.vm.findClass "java/lang/StringUTF16" = some m.cls := findClass_of_methodNamed Bd.named
  have hnm := (name_of_methodNamed Bd.named Bd.method).1
  have X0 : Stand p l e ({ frames := 0, cells := 0, slots := 0, locals := 0 } : Room) s m #[(.ref a1), (.int (0 : Int32)), (.ref a2), (.int (0 : Int32)), (.int (3 : Int32))] below meth c s₁ [] 0 0 := Stand.of_body Bd
  have e0 : s₁.heap = h0 := by rw [← hh, Bd.state]; rfl
  have N0 := Fr.nil n0
  show Gl p.tables e below (fun (o : Outcome) (U' : State) => ∃ v L, o = .returned v ∧ Qcz3_3 Z a1 a2 c0 c1 c2 h0 n0 v U'.heap L ∧ FrameEnd s o U' L ({ frames := 0, cells := 0, slots := 0, locals := 0 } : Room).cells ({ frames := 0, cells := 0, slots := 0, locals := 0 } : Room).slots) _
  refine Gl.pre (fun t k => castTop (ef_cz3_3 m a1 a2 c0 c1 c2) k) ?_
  obtain ⟨PP, hPP⟩ : ∃ P : Outcome → State → Prop, P = (fun (o : Outcome) (U' : State) => ∃ v L, o = .returned v ∧ Qcz3_3 Z a1 a2 c0 c1 c2 h0 n0 v U'.heap L ∧ FrameEnd s o U' L ({ frames := 0, cells := 0, slots := 0, locals := 0 } : Room).cells ({ frames := 0, cells := 0, slots := 0, locals := 0 } : Room).slots) := ⟨_, rfl⟩
  rw [← hPP]
  have K0 : Keep h0 h0 [a2] := Keep.refl h0 _
  show Gl p.tables e below PP (s₁.setTop (mkF m 0 #[.val (.ref a1), .val (.int (0 : Int32)), .val (.ref a2), .val (.int (0 : Int32)), .val (.int (3 : Int32)), .unset, .unset] []))
  refine Gl.pre (fun _ k => XS.iconst X0.here hx rfl (hb hby d10_0) k) ?_
  show Gl p.tables e below PP (s₁.setTop (mkF m 1 #[.val (.ref a1), .val (.int (0 : Int32)), .val (.ref a2), .val (.int (0 : Int32)), .val (.int (3 : Int32)), .unset, .unset] [(.int (0 : Int32))]))
  refine Gl.pre (fun _ k => XS.istore X0.here hx rfl (hb hby d10_1) rfl (l' := #[.val (.ref a1), .val (.int (0 : Int32)), .val (.ref a2), .val (.int (0 : Int32)), .val (.int (3 : Int32)), .val (.int (0 : Int32)), .unset]) rfl k) ?_
  show Gl p.tables e below PP (s₁.setTop (mkF m 3 #[.val (.ref a1), .val (.int (0 : Int32)), .val (.ref a2), .val (.int (0 : Int32)), .val (.int (3 : Int32)), .val (.int (0 : Int32)), .unset] []))
  refine Gl.pre (fun _ k => XS.iload X0.here hx rfl (hb hby d10_3) rfl k) ?_
  show Gl p.tables e below PP (s₁.setTop (mkF m 5 #[.val (.ref a1), .val (.int (0 : Int32)), .val (.ref a2), .val (.int (0 : Int32)), .val (.int (3 : Int32)), .val (.int (0 : Int32)), .unset] [(.int (0 : Int32))]))
  refine Gl.pre (fun _ k => XS.iload X0.here hx rfl (hb hby d10_5) rfl k) ?_
  show Gl p.tables e below PP (s₁.setTop (mkF m 7 #[.val (.ref a1), .val (.int (0 : Int32)), .val (.ref a2), .val (.int (0 : Int32)), .val (.int (3 : Int32)), .val (.int (0 : Int32)), .unset] [(.int (3 : Int32)), (.int (0 : Int32))]))
  refine Gl.pre (fun _ k => XS.icmpNo X0.here hx rfl (hb hby d10_7) rfl (tlt (show (0 : Int32) < (3 : Int32) from (by decide))).2.1 k) ?_
  show Gl p.tables e below PP (s₁.setTop (mkF m 10 #[.val (.ref a1), .val (.int (0 : Int32)), .val (.ref a2), .val (.int (0 : Int32)), .val (.int (3 : Int32)), .val (.int (0 : Int32)), .unset] []))
  refine Gl.pre (fun _ k => XS.aloadN X0.here hx rfl (hb hby d10_10) rfl rfl k) ?_
  show Gl p.tables e below PP (s₁.setTop (mkF m 11 #[.val (.ref a1), .val (.int (0 : Int32)), .val (.ref a2), .val (.int (0 : Int32)), .val (.int (3 : Int32)), .val (.int (0 : Int32)), .unset] [(.ref a1)]))
  refine Gl.pre (fun _ k => XS.iloadN X0.here hx rfl (hb hby d10_11) rfl k) ?_
  show Gl p.tables e below PP (s₁.setTop (mkF m 12 #[.val (.ref a1), .val (.int (0 : Int32)), .val (.ref a2), .val (.int (0 : Int32)), .val (.int (3 : Int32)), .val (.int (0 : Int32)), .unset] [(.int (0 : Int32)), (.ref a1)]))
  refine Gl.pre (fun _ k => own_ldC X0 hx hZ e0 V_a1 (j := (0 : Int32)) (i := 0) (by decide) (by decide) (Nat.lt_of_lt_of_eq (by decide : 0 < 3) rfl) (v := c0) rfl (g := (mkF m 12 #[.val (.ref a1), .val (.int (0 : Int32)), .val (.ref a2), .val (.int (0 : Int32)), .val (.int (3 : Int32)), .val (.int (0 : Int32)), .unset] [(.int (0 : Int32)), (.ref a1)])) rfl rfl (hb hby d10_12) _ k) ?_
  show Gl p.tables e below PP (s₁.setTop (mkF m 13 #[.val (.ref a1), .val (.int (0 : Int32)), .val (.ref a2), .val (.int (0 : Int32)), .val (.int (3 : Int32)), .val (.int (0 : Int32)), .unset] [(.int c0)]))
  refine Gl.pre (fun _ k => XS.istore X0.here hx rfl (hb hby d10_13) rfl (l' := #[.val (.ref a1), .val (.int (0 : Int32)), .val (.ref a2), .val (.int (0 : Int32)), .val (.int (3 : Int32)), .val (.int (0 : Int32)), .val (.int c0)]) rfl k) ?_
  show Gl p.tables e below PP (s₁.setTop (mkF m 15 #[.val (.ref a1), .val (.int (0 : Int32)), .val (.ref a2), .val (.int (0 : Int32)), .val (.int (3 : Int32)), .val (.int (0 : Int32)), .val (.int c0)] []))
  refine Gl.pre (fun _ k => XS.iload X0.here hx rfl (hb hby d10_15) rfl k) ?_
  show Gl p.tables e below PP (s₁.setTop (mkF m 17 #[.val (.ref a1), .val (.int (0 : Int32)), .val (.ref a2), .val (.int (0 : Int32)), .val (.int (3 : Int32)), .val (.int (0 : Int32)), .val (.int c0)] [(.int c0)]))
  refine Gl.pre (fun _ k => XS.sipush X0.here hx rfl (hb hby d10_17) k) ?_
  show Gl p.tables e below PP (s₁.setTop (mkF m 20 #[.val (.ref a1), .val (.int (0 : Int32)), .val (.ref a2), .val (.int (0 : Int32)), .val (.int (3 : Int32)), .val (.int (0 : Int32)), .val (.int c0)] [(.int (255 : Int32)), (.int c0)]))
  refine Gl.pre (fun _ k => XS.icmpYes X0.here hx rfl (pc0 := 20) (pc' := 26) rfl (hb hby d10_20) rfl (flt (show ¬ ((255 : Int32) < c0) from hc0)).2.2.2 (by decide) (by decide) k) ?_
  show Gl p.tables e below PP (s₁.setTop (mkF m 26 #[.val (.ref a1), .val (.int (0 : Int32)), .val (.ref a2), .val (.int (0 : Int32)), .val (.int (3 : Int32)), .val (.int (0 : Int32)), .val (.int c0)] []))
  refine Gl.pre (fun _ k => XS.aloadN X0.here hx rfl (hb hby d10_26) rfl rfl k) ?_
  show Gl p.tables e below PP (s₁.setTop (mkF m 27 #[.val (.ref a1), .val (.int (0 : Int32)), .val (.ref a2), .val (.int (0 : Int32)), .val (.int (3 : Int32)), .val (.int (0 : Int32)), .val (.int c0)] [(.ref a2)]))
  refine Gl.pre (fun _ k => XS.iloadN X0.here hx rfl (hb hby d10_27) rfl k) ?_
  show Gl p.tables e below PP (s₁.setTop (mkF m 28 #[.val (.ref a1), .val (.int (0 : Int32)), .val (.ref a2), .val (.int (0 : Int32)), .val (.int (3 : Int32)), .val (.int (0 : Int32)), .val (.int c0)] [(.int (0 : Int32)), (.ref a2)]))
  refine Gl.pre (fun _ k => XS.iload X0.here hx rfl (hb hby d10_28) rfl k) ?_
  show Gl p.tables e below PP (s₁.setTop (mkF m 30 #[.val (.ref a1), .val (.int (0 : Int32)), .val (.ref a2), .val (.int (0 : Int32)), .val (.int (3 : Int32)), .val (.int (0 : Int32)), .val (.int c0)] [(.int c0), (.int (0 : Int32)), (.ref a2)]))
  refine Gl.pre (fun _ k => XS.i2b X0.here hx rfl (hb hby d10_30) rfl k) ?_
  show Gl p.tables e below PP (s₁.setTop (mkF m 31 #[.val (.ref a1), .val (.int (0 : Int32)), .val (.ref a2), .val (.int (0 : Int32)), .val (.int (3 : Int32)), .val (.int (0 : Int32)), .val (.int c0)] [(.int (c0.toInt8.toInt32)), (.int (0 : Int32)), (.ref a2)]))
  obtain ⟨T1, h1, X1, e1, W1, V1, st1⟩ := own_stB X0 hx hZ e0 V_a2 (j := (0 : Int32)) (i := 0) (by decide) (by decide) (Nat.lt_of_lt_of_eq (by decide : 0 < 3) rfl) (g := (mkF m 31 #[.val (.ref a1), .val (.int (0 : Int32)), .val (.ref a2), .val (.int (0 : Int32)), .val (.int (3 : Int32)), .val (.int (0 : Int32)), .val (.int c0)] [(.int (c0.toInt8.toInt32)), (.int (0 : Int32)), (.ref a2)])) rfl rfl (hb hby d10_31)
  refine Gl.pre (fun _ k => st1 _ k) ?_
  have V_a1 := V_a1.other W1 (own_ne_a1_a2)
  have Z1 : n0 ≤ h1.size := by rw [W1.size]; exact Z0
  have N1 := Fr.snoc X1 N0 g_a2
  have K1 := K0.wr W1 (Or.inl (List.mem_of_getElem? (i := 0) rfl))
  have V_a2 : Bal Z h1 a2 .byte [(nar .byte (c0.toInt8.toInt32)), (0 : Int32), (0 : Int32)] := V1
  show Gl p.tables e below PP (T1.setTop (mkF m 32 #[.val (.ref a1), .val (.int (0 : Int32)), .val (.ref a2), .val (.int (0 : Int32)), .val (.int (3 : Int32)), .val (.int (0 : Int32)), .val (.int c0)] []))
  refine Gl.pre (fun _ k => XS.iinc X1.here hx rfl (hb hby d10_32) rfl (l' := #[.val (.ref a1), .val (.int (1 : Int32)), .val (.ref a2), .val (.int (0 : Int32)), .val (.int (3 : Int32)), .val (.int (0 : Int32)), .val (.int c0)]) rfl k) ?_
  show Gl p.tables e below PP (T1.setTop (mkF m 35 #[.val (.ref a1), .val (.int (1 : Int32)), .val (.ref a2), .val (.int (0 : Int32)), .val (.int (3 : Int32)), .val (.int (0 : Int32)), .val (.int c0)] []))
  refine Gl.pre (fun _ k => XS.iinc X1.here hx rfl (hb hby d10_35) rfl (l' := #[.val (.ref a1), .val (.int (1 : Int32)), .val (.ref a2), .val (.int (1 : Int32)), .val (.int (3 : Int32)), .val (.int (0 : Int32)), .val (.int c0)]) rfl k) ?_
  show Gl p.tables e below PP (T1.setTop (mkF m 38 #[.val (.ref a1), .val (.int (1 : Int32)), .val (.ref a2), .val (.int (1 : Int32)), .val (.int (3 : Int32)), .val (.int (0 : Int32)), .val (.int c0)] []))
  refine Gl.pre (fun _ k => XS.iinc X1.here hx rfl (hb hby d10_38) rfl (l' := #[.val (.ref a1), .val (.int (1 : Int32)), .val (.ref a2), .val (.int (1 : Int32)), .val (.int (3 : Int32)), .val (.int (1 : Int32)), .val (.int c0)]) rfl k) ?_
  show Gl p.tables e below PP (T1.setTop (mkF m 41 #[.val (.ref a1), .val (.int (1 : Int32)), .val (.ref a2), .val (.int (1 : Int32)), .val (.int (3 : Int32)), .val (.int (1 : Int32)), .val (.int c0)] []))
  refine Gl.pre (fun _ k => XS.goto X1.here hx rfl (pc0 := 41) (pc' := 3) rfl (hb hby d10_41) (by decide) (by decide) k) ?_
  show Gl p.tables e below PP (T1.setTop (mkF m 3 #[.val (.ref a1), .val (.int (1 : Int32)), .val (.ref a2), .val (.int (1 : Int32)), .val (.int (3 : Int32)), .val (.int (1 : Int32)), .val (.int c0)] []))
  refine Gl.pre (fun _ k => XS.iload X1.here hx rfl (hb hby d10_3) rfl k) ?_
  show Gl p.tables e below PP (T1.setTop (mkF m 5 #[.val (.ref a1), .val (.int (1 : Int32)), .val (.ref a2), .val (.int (1 : Int32)), .val (.int (3 : Int32)), .val (.int (1 : Int32)), .val (.int c0)] [(.int (1 : Int32))]))
  refine Gl.pre (fun _ k => XS.iload X1.here hx rfl (hb hby d10_5) rfl k) ?_
  show Gl p.tables e below PP (T1.setTop (mkF m 7 #[.val (.ref a1), .val (.int (1 : Int32)), .val (.ref a2), .val (.int (1 : Int32)), .val (.int (3 : Int32)), .val (.int (1 : Int32)), .val (.int c0)] [(.int (3 : Int32)), (.int (1 : Int32))]))
  refine Gl.pre (fun _ k => XS.icmpNo X1.here hx rfl (hb hby d10_7) rfl (tlt (show (1 : Int32) < (3 : Int32) from (by decide))).2.1 k) ?_
  show Gl p.tables e below PP (T1.setTop (mkF m 10 #[.val (.ref a1), .val (.int (1 : Int32)), .val (.ref a2), .val (.int (1 : Int32)), .val (.int (3 : Int32)), .val (.int (1 : Int32)), .val (.int c0)] []))
  refine Gl.pre (fun _ k => XS.aloadN X1.here hx rfl (hb hby d10_10) rfl rfl k) ?_
  show Gl p.tables e below PP (T1.setTop (mkF m 11 #[.val (.ref a1), .val (.int (1 : Int32)), .val (.ref a2), .val (.int (1 : Int32)), .val (.int (3 : Int32)), .val (.int (1 : Int32)), .val (.int c0)] [(.ref a1)]))
  refine Gl.pre (fun _ k => XS.iloadN X1.here hx rfl (hb hby d10_11) rfl k) ?_
  show Gl p.tables e below PP (T1.setTop (mkF m 12 #[.val (.ref a1), .val (.int (1 : Int32)), .val (.ref a2), .val (.int (1 : Int32)), .val (.int (3 : Int32)), .val (.int (1 : Int32)), .val (.int c0)] [(.int (1 : Int32)), (.ref a1)]))
  refine Gl.pre (fun _ k => own_ldC X1 hx hZ e1 V_a1 (j := (1 : Int32)) (i := 1) (by decide) (by decide) (Nat.lt_of_lt_of_eq (by decide : 1 < 3) rfl) (v := c1) rfl (g := (mkF m 12 #[.val (.ref a1), .val (.int (1 : Int32)), .val (.ref a2), .val (.int (1 : Int32)), .val (.int (3 : Int32)), .val (.int (1 : Int32)), .val (.int c0)] [(.int (1 : Int32)), (.ref a1)])) rfl rfl (hb hby d10_12) _ k) ?_
  show Gl p.tables e below PP (T1.setTop (mkF m 13 #[.val (.ref a1), .val (.int (1 : Int32)), .val (.ref a2), .val (.int (1 : Int32)), .val (.int (3 : Int32)), .val (.int (1 : Int32)), .val (.int c0)] [(.int c1)]))
  refine Gl.pre (fun _ k => XS.istore X1.here hx rfl (hb hby d10_13) rfl (l' := #[.val (.ref a1), .val (.int (1 : Int32)), .val (.ref a2), .val (.int (1 : Int32)), .val (.int (3 : Int32)), .val (.int (1 : Int32)), .val (.int c1)]) rfl k) ?_
  show Gl p.tables e below PP (T1.setTop (mkF m 15 #[.val (.ref a1), .val (.int (1 : Int32)), .val (.ref a2), .val (.int (1 : Int32)), .val (.int (3 : Int32)), .val (.int (1 : Int32)), .val (.int c1)] []))
  refine Gl.pre (fun _ k => XS.iload X1.here hx rfl (hb hby d10_15) rfl k) ?_
  show Gl p.tables e below PP (T1.setTop (mkF m 17 #[.val (.ref a1), .val (.int (1 : Int32)), .val (.ref a2), .val (.int (1 : Int32)), .val (.int (3 : Int32)), .val (.int (1 : Int32)), .val (.int c1)] [(.int c1)]))
  refine Gl.pre (fun _ k => XS.sipush X1.here hx rfl (hb hby d10_17) k) ?_
  show Gl p.tables e below PP (T1.setTop (mkF m 20 #[.val (.ref a1), .val (.int (1 : Int32)), .val (.ref a2), .val (.int (1 : Int32)), .val (.int (3 : Int32)), .val (.int (1 : Int32)), .val (.int c1)] [(.int (255 : Int32)), (.int c1)]))
  refine Gl.pre (fun _ k => XS.icmpYes X1.here hx rfl (pc0 := 20) (pc' := 26) rfl (hb hby d10_20) rfl (flt (show ¬ ((255 : Int32) < c1) from hc1)).2.2.2 (by decide) (by decide) k) ?_
  show Gl p.tables e below PP (T1.setTop (mkF m 26 #[.val (.ref a1), .val (.int (1 : Int32)), .val (.ref a2), .val (.int (1 : Int32)), .val (.int (3 : Int32)), .val (.int (1 : Int32)), .val (.int c1)] []))
  refine Gl.pre (fun _ k => XS.aloadN X1.here hx rfl (hb hby d10_26) rfl rfl k) ?_
  show Gl p.tables e below PP (T1.setTop (mkF m 27 #[.val (.ref a1), .val (.int (1 : Int32)), .val (.ref a2), .val (.int (1 : Int32)), .val (.int (3 : Int32)), .val (.int (1 : Int32)), .val (.int c1)] [(.ref a2)]))
  refine Gl.pre (fun _ k => XS.iloadN X1.here hx rfl (hb hby d10_27) rfl k) ?_
  show Gl p.tables e below PP (T1.setTop (mkF m 28 #[.val (.ref a1), .val (.int (1 : Int32)), .val (.ref a2), .val (.int (1 : Int32)), .val (.int (3 : Int32)), .val (.int (1 : Int32)), .val (.int c1)] [(.int (1 : Int32)), (.ref a2)]))
  refine Gl.pre (fun _ k => XS.iload X1.here hx rfl (hb hby d10_28) rfl k) ?_
  show Gl p.tables e below PP (T1.setTop (mkF m 30 #[.val (.ref a1), .val (.int (1 : Int32)), .val (.ref a2), .val (.int (1 : Int32)), .val (.int (3 : Int32)), .val (.int (1 : Int32)), .val (.int c1)] [(.int c1), (.int (1 : Int32)), (.ref a2)]))
  refine Gl.pre (fun _ k => XS.i2b X1.here hx rfl (hb hby d10_30) rfl k) ?_
  show Gl p.tables e below PP (T1.setTop (mkF m 31 #[.val (.ref a1), .val (.int (1 : Int32)), .val (.ref a2), .val (.int (1 : Int32)), .val (.int (3 : Int32)), .val (.int (1 : Int32)), .val (.int c1)] [(.int (c1.toInt8.toInt32)), (.int (1 : Int32)), (.ref a2)]))
  obtain ⟨T2, h2, X2, e2, W2, V2, st2⟩ := own_stB X1 hx hZ e1 V_a2 (j := (1 : Int32)) (i := 1) (by decide) (by decide) (Nat.lt_of_lt_of_eq (by decide : 1 < 3) rfl) (g := (mkF m 31 #[.val (.ref a1), .val (.int (1 : Int32)), .val (.ref a2), .val (.int (1 : Int32)), .val (.int (3 : Int32)), .val (.int (1 : Int32)), .val (.int c1)] [(.int (c1.toInt8.toInt32)), (.int (1 : Int32)), (.ref a2)])) rfl rfl (hb hby d10_31)
  refine Gl.pre (fun _ k => st2 _ k) ?_
  have V_a1 := V_a1.other W2 (own_ne_a1_a2)
  have Z2 : n0 ≤ h2.size := by rw [W2.size]; exact Z1
  have N2 := Fr.snoc X2 N1 g_a2
  have K2 := K1.wr W2 (Or.inl (List.mem_of_getElem? (i := 0) rfl))
  have V_a2 : Bal Z h2 a2 .byte [(nar .byte (c0.toInt8.toInt32)), (nar .byte (c1.toInt8.toInt32)), (0 : Int32)] := V2
  show Gl p.tables e below PP (T2.setTop (mkF m 32 #[.val (.ref a1), .val (.int (1 : Int32)), .val (.ref a2), .val (.int (1 : Int32)), .val (.int (3 : Int32)), .val (.int (1 : Int32)), .val (.int c1)] []))
  refine Gl.pre (fun _ k => XS.iinc X2.here hx rfl (hb hby d10_32) rfl (l' := #[.val (.ref a1), .val (.int (2 : Int32)), .val (.ref a2), .val (.int (1 : Int32)), .val (.int (3 : Int32)), .val (.int (1 : Int32)), .val (.int c1)]) rfl k) ?_
  show Gl p.tables e below PP (T2.setTop (mkF m 35 #[.val (.ref a1), .val (.int (2 : Int32)), .val (.ref a2), .val (.int (1 : Int32)), .val (.int (3 : Int32)), .val (.int (1 : Int32)), .val (.int c1)] []))
  refine Gl.pre (fun _ k => XS.iinc X2.here hx rfl (hb hby d10_35) rfl (l' := #[.val (.ref a1), .val (.int (2 : Int32)), .val (.ref a2), .val (.int (2 : Int32)), .val (.int (3 : Int32)), .val (.int (1 : Int32)), .val (.int c1)]) rfl k) ?_
  show Gl p.tables e below PP (T2.setTop (mkF m 38 #[.val (.ref a1), .val (.int (2 : Int32)), .val (.ref a2), .val (.int (2 : Int32)), .val (.int (3 : Int32)), .val (.int (1 : Int32)), .val (.int c1)] []))
  refine Gl.pre (fun _ k => XS.iinc X2.here hx rfl (hb hby d10_38) rfl (l' := #[.val (.ref a1), .val (.int (2 : Int32)), .val (.ref a2), .val (.int (2 : Int32)), .val (.int (3 : Int32)), .val (.int (2 : Int32)), .val (.int c1)]) rfl k) ?_
  show Gl p.tables e below PP (T2.setTop (mkF m 41 #[.val (.ref a1), .val (.int (2 : Int32)), .val (.ref a2), .val (.int (2 : Int32)), .val (.int (3 : Int32)), .val (.int (2 : Int32)), .val (.int c1)] []))
  refine Gl.pre (fun _ k => XS.goto X2.here hx rfl (pc0 := 41) (pc' := 3) rfl (hb hby d10_41) (by decide) (by decide) k) ?_
  show Gl p.tables e below PP (T2.setTop (mkF m 3 #[.val (.ref a1), .val (.int (2 : Int32)), .val (.ref a2), .val (.int (2 : Int32)), .val (.int (3 : Int32)), .val (.int (2 : Int32)), .val (.int c1)] []))
  refine Gl.pre (fun _ k => XS.iload X2.here hx rfl (hb hby d10_3) rfl k) ?_
  show Gl p.tables e below PP (T2.setTop (mkF m 5 #[.val (.ref a1), .val (.int (2 : Int32)), .val (.ref a2), .val (.int (2 : Int32)), .val (.int (3 : Int32)), .val (.int (2 : Int32)), .val (.int c1)] [(.int (2 : Int32))]))
  refine Gl.pre (fun _ k => XS.iload X2.here hx rfl (hb hby d10_5) rfl k) ?_
  show Gl p.tables e below PP (T2.setTop (mkF m 7 #[.val (.ref a1), .val (.int (2 : Int32)), .val (.ref a2), .val (.int (2 : Int32)), .val (.int (3 : Int32)), .val (.int (2 : Int32)), .val (.int c1)] [(.int (3 : Int32)), (.int (2 : Int32))]))
  refine Gl.pre (fun _ k => XS.icmpNo X2.here hx rfl (hb hby d10_7) rfl (tlt (show (2 : Int32) < (3 : Int32) from (by decide))).2.1 k) ?_
  show Gl p.tables e below PP (T2.setTop (mkF m 10 #[.val (.ref a1), .val (.int (2 : Int32)), .val (.ref a2), .val (.int (2 : Int32)), .val (.int (3 : Int32)), .val (.int (2 : Int32)), .val (.int c1)] []))
  refine Gl.pre (fun _ k => XS.aloadN X2.here hx rfl (hb hby d10_10) rfl rfl k) ?_
  show Gl p.tables e below PP (T2.setTop (mkF m 11 #[.val (.ref a1), .val (.int (2 : Int32)), .val (.ref a2), .val (.int (2 : Int32)), .val (.int (3 : Int32)), .val (.int (2 : Int32)), .val (.int c1)] [(.ref a1)]))
  refine Gl.pre (fun _ k => XS.iloadN X2.here hx rfl (hb hby d10_11) rfl k) ?_
  show Gl p.tables e below PP (T2.setTop (mkF m 12 #[.val (.ref a1), .val (.int (2 : Int32)), .val (.ref a2), .val (.int (2 : Int32)), .val (.int (3 : Int32)), .val (.int (2 : Int32)), .val (.int c1)] [(.int (2 : Int32)), (.ref a1)]))
  refine Gl.pre (fun _ k => own_ldC X2 hx hZ e2 V_a1 (j := (2 : Int32)) (i := 2) (by decide) (by decide) (Nat.lt_of_lt_of_eq (by decide : 2 < 3) rfl) (v := c2) rfl (g := (mkF m 12 #[.val (.ref a1), .val (.int (2 : Int32)), .val (.ref a2), .val (.int (2 : Int32)), .val (.int (3 : Int32)), .val (.int (2 : Int32)), .val (.int c1)] [(.int (2 : Int32)), (.ref a1)])) rfl rfl (hb hby d10_12) _ k) ?_
  show Gl p.tables e below PP (T2.setTop (mkF m 13 #[.val (.ref a1), .val (.int (2 : Int32)), .val (.ref a2), .val (.int (2 : Int32)), .val (.int (3 : Int32)), .val (.int (2 : Int32)), .val (.int c1)] [(.int c2)]))
  refine Gl.pre (fun _ k => XS.istore X2.here hx rfl (hb hby d10_13) rfl (l' := #[.val (.ref a1), .val (.int (2 : Int32)), .val (.ref a2), .val (.int (2 : Int32)), .val (.int (3 : Int32)), .val (.int (2 : Int32)), .val (.int c2)]) rfl k) ?_
  show Gl p.tables e below PP (T2.setTop (mkF m 15 #[.val (.ref a1), .val (.int (2 : Int32)), .val (.ref a2), .val (.int (2 : Int32)), .val (.int (3 : Int32)), .val (.int (2 : Int32)), .val (.int c2)] []))
  refine Gl.pre (fun _ k => XS.iload X2.here hx rfl (hb hby d10_15) rfl k) ?_
  show Gl p.tables e below PP (T2.setTop (mkF m 17 #[.val (.ref a1), .val (.int (2 : Int32)), .val (.ref a2), .val (.int (2 : Int32)), .val (.int (3 : Int32)), .val (.int (2 : Int32)), .val (.int c2)] [(.int c2)]))
  refine Gl.pre (fun _ k => XS.sipush X2.here hx rfl (hb hby d10_17) k) ?_
  show Gl p.tables e below PP (T2.setTop (mkF m 20 #[.val (.ref a1), .val (.int (2 : Int32)), .val (.ref a2), .val (.int (2 : Int32)), .val (.int (3 : Int32)), .val (.int (2 : Int32)), .val (.int c2)] [(.int (255 : Int32)), (.int c2)]))
  refine Gl.pre (fun _ k => XS.icmpYes X2.here hx rfl (pc0 := 20) (pc' := 26) rfl (hb hby d10_20) rfl (flt (show ¬ ((255 : Int32) < c2) from hc2)).2.2.2 (by decide) (by decide) k) ?_
  show Gl p.tables e below PP (T2.setTop (mkF m 26 #[.val (.ref a1), .val (.int (2 : Int32)), .val (.ref a2), .val (.int (2 : Int32)), .val (.int (3 : Int32)), .val (.int (2 : Int32)), .val (.int c2)] []))
  refine Gl.pre (fun _ k => XS.aloadN X2.here hx rfl (hb hby d10_26) rfl rfl k) ?_
  show Gl p.tables e below PP (T2.setTop (mkF m 27 #[.val (.ref a1), .val (.int (2 : Int32)), .val (.ref a2), .val (.int (2 : Int32)), .val (.int (3 : Int32)), .val (.int (2 : Int32)), .val (.int c2)] [(.ref a2)]))
  refine Gl.pre (fun _ k => XS.iloadN X2.here hx rfl (hb hby d10_27) rfl k) ?_
  show Gl p.tables e below PP (T2.setTop (mkF m 28 #[.val (.ref a1), .val (.int (2 : Int32)), .val (.ref a2), .val (.int (2 : Int32)), .val (.int (3 : Int32)), .val (.int (2 : Int32)), .val (.int c2)] [(.int (2 : Int32)), (.ref a2)]))
  refine Gl.pre (fun _ k => XS.iload X2.here hx rfl (hb hby d10_28) rfl k) ?_
  show Gl p.tables e below PP (T2.setTop (mkF m 30 #[.val (.ref a1), .val (.int (2 : Int32)), .val (.ref a2), .val (.int (2 : Int32)), .val (.int (3 : Int32)), .val (.int (2 : Int32)), .val (.int c2)] [(.int c2), (.int (2 : Int32)), (.ref a2)]))
  refine Gl.pre (fun _ k => XS.i2b X2.here hx rfl (hb hby d10_30) rfl k) ?_
  show Gl p.tables e below PP (T2.setTop (mkF m 31 #[.val (.ref a1), .val (.int (2 : Int32)), .val (.ref a2), .val (.int (2 : Int32)), .val (.int (3 : Int32)), .val (.int (2 : Int32)), .val (.int c2)] [(.int (c2.toInt8.toInt32)), (.int (2 : Int32)), (.ref a2)]))
  obtain ⟨T3, h3, X3, e3, W3, V3, st3⟩ := own_stB X2 hx hZ e2 V_a2 (j := (2 : Int32)) (i := 2) (by decide) (by decide) (Nat.lt_of_lt_of_eq (by decide : 2 < 3) rfl) (g := (mkF m 31 #[.val (.ref a1), .val (.int (2 : Int32)), .val (.ref a2), .val (.int (2 : Int32)), .val (.int (3 : Int32)), .val (.int (2 : Int32)), .val (.int c2)] [(.int (c2.toInt8.toInt32)), (.int (2 : Int32)), (.ref a2)])) rfl rfl (hb hby d10_31)
  refine Gl.pre (fun _ k => st3 _ k) ?_
  have V_a1 := V_a1.other W3 (own_ne_a1_a2)
  have Z3 : n0 ≤ h3.size := by rw [W3.size]; exact Z2
  have N3 := Fr.snoc X3 N2 g_a2
  have K3 := K2.wr W3 (Or.inl (List.mem_of_getElem? (i := 0) rfl))
  have V_a2 : Bal Z h3 a2 .byte [(nar .byte (c0.toInt8.toInt32)), (nar .byte (c1.toInt8.toInt32)), (nar .byte (c2.toInt8.toInt32))] := V3
  show Gl p.tables e below PP (T3.setTop (mkF m 32 #[.val (.ref a1), .val (.int (2 : Int32)), .val (.ref a2), .val (.int (2 : Int32)), .val (.int (3 : Int32)), .val (.int (2 : Int32)), .val (.int c2)] []))
  refine Gl.pre (fun _ k => XS.iinc X3.here hx rfl (hb hby d10_32) rfl (l' := #[.val (.ref a1), .val (.int (3 : Int32)), .val (.ref a2), .val (.int (2 : Int32)), .val (.int (3 : Int32)), .val (.int (2 : Int32)), .val (.int c2)]) rfl k) ?_
  show Gl p.tables e below PP (T3.setTop (mkF m 35 #[.val (.ref a1), .val (.int (3 : Int32)), .val (.ref a2), .val (.int (2 : Int32)), .val (.int (3 : Int32)), .val (.int (2 : Int32)), .val (.int c2)] []))
  refine Gl.pre (fun _ k => XS.iinc X3.here hx rfl (hb hby d10_35) rfl (l' := #[.val (.ref a1), .val (.int (3 : Int32)), .val (.ref a2), .val (.int (3 : Int32)), .val (.int (3 : Int32)), .val (.int (2 : Int32)), .val (.int c2)]) rfl k) ?_
  show Gl p.tables e below PP (T3.setTop (mkF m 38 #[.val (.ref a1), .val (.int (3 : Int32)), .val (.ref a2), .val (.int (3 : Int32)), .val (.int (3 : Int32)), .val (.int (2 : Int32)), .val (.int c2)] []))
  refine Gl.pre (fun _ k => XS.iinc X3.here hx rfl (hb hby d10_38) rfl (l' := #[.val (.ref a1), .val (.int (3 : Int32)), .val (.ref a2), .val (.int (3 : Int32)), .val (.int (3 : Int32)), .val (.int (3 : Int32)), .val (.int c2)]) rfl k) ?_
  show Gl p.tables e below PP (T3.setTop (mkF m 41 #[.val (.ref a1), .val (.int (3 : Int32)), .val (.ref a2), .val (.int (3 : Int32)), .val (.int (3 : Int32)), .val (.int (3 : Int32)), .val (.int c2)] []))
  refine Gl.pre (fun _ k => XS.goto X3.here hx rfl (pc0 := 41) (pc' := 3) rfl (hb hby d10_41) (by decide) (by decide) k) ?_
  show Gl p.tables e below PP (T3.setTop (mkF m 3 #[.val (.ref a1), .val (.int (3 : Int32)), .val (.ref a2), .val (.int (3 : Int32)), .val (.int (3 : Int32)), .val (.int (3 : Int32)), .val (.int c2)] []))
  refine Gl.pre (fun _ k => XS.iload X3.here hx rfl (hb hby d10_3) rfl k) ?_
  show Gl p.tables e below PP (T3.setTop (mkF m 5 #[.val (.ref a1), .val (.int (3 : Int32)), .val (.ref a2), .val (.int (3 : Int32)), .val (.int (3 : Int32)), .val (.int (3 : Int32)), .val (.int c2)] [(.int (3 : Int32))]))
  refine Gl.pre (fun _ k => XS.iload X3.here hx rfl (hb hby d10_5) rfl k) ?_
  show Gl p.tables e below PP (T3.setTop (mkF m 7 #[.val (.ref a1), .val (.int (3 : Int32)), .val (.ref a2), .val (.int (3 : Int32)), .val (.int (3 : Int32)), .val (.int (3 : Int32)), .val (.int c2)] [(.int (3 : Int32)), (.int (3 : Int32))]))
  refine Gl.pre (fun _ k => XS.icmpYes X3.here hx rfl (pc0 := 7) (pc' := 44) rfl (hb hby d10_7) rfl (flt (show ¬ ((3 : Int32) < (3 : Int32)) from (by decide))).2.1 (by decide) (by decide) k) ?_
  show Gl p.tables e below PP (T3.setTop (mkF m 44 #[.val (.ref a1), .val (.int (3 : Int32)), .val (.ref a2), .val (.int (3 : Int32)), .val (.int (3 : Int32)), .val (.int (3 : Int32)), .val (.int c2)] []))
  refine Gl.pre (fun _ k => XS.iload X3.here hx rfl (hb hby d10_44) rfl k) ?_
  show Gl p.tables e below PP (T3.setTop (mkF m 46 #[.val (.ref a1), .val (.int (3 : Int32)), .val (.ref a2), .val (.int (3 : Int32)), .val (.int (3 : Int32)), .val (.int (3 : Int32)), .val (.int c2)] [(.int (3 : Int32))]))
  rw [hPP]
  refine own_finI (Q := (Qcz3_3 Z a1 a2 c0 c1 c2 h0 n0)) X3 hx hlk Bd.returns (hb hby d10_46) ?_ (by decide) (by decide)
  show Qcz3_3 Z a1 a2 c0 c1 c2 h0 n0 _ T3.heap _
  rw [e3]
  exact ⟨rfl, N3, K3, _, rfl, V_a2⟩
theorem ef_nl3 (m : MethodId)  : entryFrame m #[(.int (3 : Int32))] 1 = mkF m 0 #[.val (.int (3 : Int32))] [] := by first | (simp [entryFrame, mkF, argsToLocals, Value.category]; done) | rfl
def Qnl3 (Z : State)  (h0 : Heap) (n0 : Nat) (v : Option Value) (h : Heap) (L : List Loc) : Prop := v = some (.int (6 : Int32)) ∧ Fr n0 L ∧ h = h0
set_option maxRecDepth 65536 in
set_option maxHeartbeats 40000000 in
theorem rmnl3 (l : Launch) (Z : State) (a0 : Array Value) (hw : ∀ d ∈ tables_1, d.before a0 Z = true) (ws : List Jvm.Cond)  (h0 : Heap) (n0 : Nat) (Z0 : n0 ≤ h0.size)  :
    MetFree l (⟨"java/lang/StringUTF16", "newBytesLength", "(I)I"⟩ : MethodName) (head1 (Jvm.Cond.code (⟨"java/lang/StringUTF16", "newBytesLength", "(I)I"⟩ : MethodName) jdk_52_method_3_code 1 (some .int) :: ws) ({ frames := 0, cells := 0, slots := 0, locals := 0 } : Room)) (fun a U => a = #[(.int (3 : Int32))] ∧ Z.Warmed39 U.vm ∧ U.heap = h0) (fun _ _ _ _ _ => True) (fun _ U o U' => ∃ v L, o = .returned v ∧ Qnl3 Z  h0 n0 v U'.heap L ∧ FrameEnd U o U' L ({ frames := 0, cells := 0, slots := 0, locals := 0 } : Room).cells ({ frames := 0, cells := 0, slots := 0, locals := 0 } : Room).slots) := by
  refine MetFree.of_bodySF (plainFor_of_name pn_14) hisR ?_
  intro p e s m args below meth c s₁ Bd hml0 hP hK
  obtain ⟨rfl, hZ, hh⟩ := hP
  have hx := Bd.exec
  have hby := Bd.bytes
  have hlk : meth.locks = false := BodyLoose.notSynchronized Bd
  have hml : c.maxLocals = 1 := hml0
  have hown : s.vm.findClass "java/lang/StringUTF16" = some m.cls := findClass_of_methodNamed Bd.named
  have hnm := (name_of_methodNamed Bd.named Bd.method).1
  have X0 : Stand p l e ({ frames := 0, cells := 0, slots := 0, locals := 0 } : Room) s m #[(.int (3 : Int32))] below meth c s₁ [] 0 0 := Stand.of_body Bd
  have e0 : s₁.heap = h0 := by rw [← hh, Bd.state]; rfl
  have N0 := Fr.nil n0
  show Gl p.tables e below (fun (o : Outcome) (U' : State) => ∃ v L, o = .returned v ∧ Qnl3 Z  h0 n0 v U'.heap L ∧ FrameEnd s o U' L ({ frames := 0, cells := 0, slots := 0, locals := 0 } : Room).cells ({ frames := 0, cells := 0, slots := 0, locals := 0 } : Room).slots) _
  refine Gl.pre (fun t k => castTop (ef_nl3 m ) k) ?_
  obtain ⟨PP, hPP⟩ : ∃ P : Outcome → State → Prop, P = (fun (o : Outcome) (U' : State) => ∃ v L, o = .returned v ∧ Qnl3 Z  h0 n0 v U'.heap L ∧ FrameEnd s o U' L ({ frames := 0, cells := 0, slots := 0, locals := 0 } : Room).cells ({ frames := 0, cells := 0, slots := 0, locals := 0 } : Room).slots) := ⟨_, rfl⟩
  rw [← hPP]
  show Gl p.tables e below PP (s₁.setTop (mkF m 0 #[.val (.int (3 : Int32))] []))
  refine Gl.pre (fun _ k => XS.iloadN X0.here hx rfl (hb hby d14_0) rfl k) ?_
  show Gl p.tables e below PP (s₁.setTop (mkF m 1 #[.val (.int (3 : Int32))] [(.int (3 : Int32))]))
  refine Gl.pre (fun _ k => XS.ifYes X0.here hx rfl (pc0 := 1) (pc' := 12) rfl (hb hby d14_1) rfl ((if0 _ _).trans (flt (show ¬ ((3 : Int32) < (0 : Int32)) from (by decide))).2.1) (by decide) (by decide) k) ?_
  show Gl p.tables e below PP (s₁.setTop (mkF m 12 #[.val (.int (3 : Int32))] []))
  refine Gl.pre (fun _ k => XS.iloadN X0.here hx rfl (hb hby d14_12) rfl k) ?_
  show Gl p.tables e below PP (s₁.setTop (mkF m 13 #[.val (.int (3 : Int32))] [(.int (3 : Int32))]))
  refine Gl.pre (fun _ k => X0.ldcInt hx hown (mvT hZ (hw _ (List.mem_of_getElem? (i := 74) rfl))) (g := (mkF m 13 #[.val (.int (3 : Int32))] [(.int (3 : Int32))])) rfl (hb hby d14_13) _ k) ?_
  show Gl p.tables e below PP (s₁.setTop (mkF m 15 #[.val (.int (3 : Int32))] [(.int (1073741823 : Int32)), (.int (3 : Int32))]))
  refine Gl.pre (fun _ k => XS.icmpYes X0.here hx rfl (pc0 := 15) (pc' := 55) rfl (hb hby d14_15) rfl (tlt (show (3 : Int32) < (1073741823 : Int32) from (by decide))).1 (by decide) (by decide) k) ?_
  show Gl p.tables e below PP (s₁.setTop (mkF m 55 #[.val (.int (3 : Int32))] []))
  refine Gl.pre (fun _ k => XS.iloadN X0.here hx rfl (hb hby d14_55) rfl k) ?_
  show Gl p.tables e below PP (s₁.setTop (mkF m 56 #[.val (.int (3 : Int32))] [(.int (3 : Int32))]))
  refine Gl.pre (fun _ k => XS.iconst X0.here hx rfl (hb hby d14_56) k) ?_
  show Gl p.tables e below PP (s₁.setTop (mkF m 57 #[.val (.int (3 : Int32))] [(.int (1 : Int32)), (.int (3 : Int32))]))
  refine Gl.pre (fun _ k => XS.ishl X0.here hx rfl (hb hby d14_57) rfl k) ?_
  show Gl p.tables e below PP (s₁.setTop (mkF m 58 #[.val (.int (3 : Int32))] [(.int ((3 : Int32) <<< ((1 : Int32) &&& 31)))]))
  rw [show ((3 : Int32) <<< ((1 : Int32) &&& 31)) = (6 : Int32) by decide]
  show Gl p.tables e below PP (s₁.setTop (mkF m 58 #[.val (.int (3 : Int32))] [(.int (6 : Int32))]))
  rw [hPP]
  refine own_finI (Q := (Qnl3 Z  h0 n0)) X0 hx hlk Bd.returns (hb hby d14_58) ?_ (by decide) (by decide)
  show Qnl3 Z  h0 n0 _ s₁.heap _
  rw [e0]
  exact ⟨rfl, N0, rfl⟩
theorem ef_nf3 (m : MethodId)  : entryFrame m #[(.int (3 : Int32))] 1 = mkF m 0 #[.val (.int (3 : Int32))] [] := by first | (simp [entryFrame, mkF, argsToLocals, Value.category]; done) | rfl
def Qnf3 (Z : State)  (h0 : Heap) (n0 : Nat) (v : Option Value) (h : Heap) (L : List Loc) : Prop := ∃ b : Addr, v = some (.ref b) ∧ Fr n0 L ∧ h0.size ≤ b ∧ Keep h0 h [] ∧ Bal Z h b .byte [(0 : Int32), (0 : Int32), (0 : Int32), (0 : Int32), (0 : Int32), (0 : Int32)]
set_option maxRecDepth 65536 in
set_option maxHeartbeats 40000000 in
theorem rmnf3 (l : Launch) (Z : State) (a0 : Array Value) (hw : ∀ d ∈ tables_1, d.before a0 Z = true) (ws : List Jvm.Cond)  (h0 : Heap) (n0 : Nat) (Z0 : n0 ≤ h0.size)  :
    MetFree l (⟨"java/lang/StringUTF16", "newBytesFor", "(I)[B"⟩ : MethodName) (head1 (Jvm.Cond.code (⟨"java/lang/StringUTF16", "newBytesFor", "(I)[B"⟩ : MethodName) jdk_52_method_2_code 1 (some (.array .byte)) :: ws) ({ frames := 1, cells := 1, slots := 6, locals := 12 } : Room)) (fun a U => a = #[(.int (3 : Int32))] ∧ Z.Warmed39 U.vm ∧ U.heap = h0) (fun _ _ _ _ _ => True) (fun _ U o U' => ∃ v L, o = .returned v ∧ Qnf3 Z  h0 n0 v U'.heap L ∧ FrameEnd U o U' L ({ frames := 1, cells := 1, slots := 6, locals := 12 } : Room).cells ({ frames := 1, cells := 1, slots := 6, locals := 12 } : Room).slots) := by
  refine MetFree.of_bodySF (plainFor_of_name pn_13) hisR ?_
  intro p e s m args below meth c s₁ Bd hml0 hP hK
  obtain ⟨rfl, hZ, hh⟩ := hP
  have hx := Bd.exec
  have hby := Bd.bytes
  have hlk : meth.locks = false := BodyLoose.notSynchronized Bd
  have hml : c.maxLocals = 1 := hml0
  have hown : s.vm.findClass "java/lang/StringUTF16" = some m.cls := findClass_of_methodNamed Bd.named
  have hnm := (name_of_methodNamed Bd.named Bd.method).1
  have X0 : Stand p l e ({ frames := 1, cells := 1, slots := 6, locals := 12 } : Room) s m #[(.int (3 : Int32))] below meth c s₁ [] 0 0 := Stand.of_body Bd
  have e0 : s₁.heap = h0 := by rw [← hh, Bd.state]; rfl
  have N0 := Fr.nil n0
  show Gl p.tables e below (fun (o : Outcome) (U' : State) => ∃ v L, o = .returned v ∧ Qnf3 Z  h0 n0 v U'.heap L ∧ FrameEnd s o U' L ({ frames := 1, cells := 1, slots := 6, locals := 12 } : Room).cells ({ frames := 1, cells := 1, slots := 6, locals := 12 } : Room).slots) _
  refine Gl.pre (fun t k => castTop (ef_nf3 m ) k) ?_
  obtain ⟨PP, hPP⟩ : ∃ P : Outcome → State → Prop, P = (fun (o : Outcome) (U' : State) => ∃ v L, o = .returned v ∧ Qnf3 Z  h0 n0 v U'.heap L ∧ FrameEnd s o U' L ({ frames := 1, cells := 1, slots := 6, locals := 12 } : Room).cells ({ frames := 1, cells := 1, slots := 6, locals := 12 } : Room).slots) := ⟨_, rfl⟩
  rw [← hPP]
  have K0 : Keep h0 h0 [] := Keep.refl h0 _
  show Gl p.tables e below PP (s₁.setTop (mkF m 0 #[.val (.int (3 : Int32))] []))
  refine Gl.pre (fun _ k => XS.iloadN X0.here hx rfl (hb hby d13_0) rfl k) ?_
  show Gl p.tables e below PP (s₁.setTop (mkF m 1 #[.val (.int (3 : Int32))] [(.int (3 : Int32))]))
  obtain ⟨_, _, ⟨T1, L1, k1, n1⟩, -, X1, ⟨Lc1, hQ1, l1, y1, z1⟩, st1⟩ := Jvm.LawKit.callS X0 hx (y := (⟨"java/lang/StringUTF16", "newBytesLength", "(I)I"⟩ : MethodName)) hown (mvT hZ (hw _ (List.mem_of_getElem? (i := 71) rfl))) (mvT hZ (hw _ (List.mem_of_getElem? (i := 72) rfl))) (mvT hZ (hw _ (List.mem_of_getElem? (i := 57) rfl))) (mvT hZ (hw _ (List.mem_of_getElem? (i := 73) rfl))) (by decide) (backOf (W := 0) (rmnl3 l Z a0 hw []  h0 n0 Z0 ) hZ (hw _ (List.mem_of_getElem? (i := 73) rfl)) (hw _ (List.mem_of_getElem? (i := 57) rfl)) (by decide) (by decide)) (g := (mkF m 1 #[.val (.int (3 : Int32))] [(.int (3 : Int32))])) rfl (by rw [hml]; rfl) (argsL := [(.int (3 : Int32))]) (rest := []) (lenOf pd_0 rfl) rfl (by show 2 * 0 + _ ≤ _; exact Nat.le_of_eq rfl) (hb hby d13_1) (fun _ _ => ⟨rfl, e0, (by decide : 0 + 0 ≤ _), (by decide : 0 + 0 ≤ _)⟩)
  dsimp only [Pt.U, Pt.locs, Pt.cells, Pt.slots] at X1 l1 y1 z1 st1 hQ1
  subst l1 y1 z1
  obtain ⟨rfl, N1q, e1⟩ := hQ1
  have N1 := Fr.app N0 N1q
  refine Gl.pre (fun _ k => st1 _ k) ?_
  show Gl p.tables e below PP (T1.setTop (mkF m 4 #[.val (.int (3 : Int32))] [(.int (6 : Int32))]))
  obtain ⟨T2, h2, k2, X2, e2, E2, A2, st2⟩ := newP X1 hx hZ (hw _ (List.mem_of_getElem? (i := 19) rfl)) e1 (g := (mkF m 4 #[.val (.int (3 : Int32))] [(.int (6 : Int32))])) rfl (hb hby d13_4) rfl (by decide) (cap := 6) (by decide) (by decide) (by decide) (by decide)
  obtain ⟨b2, g2⟩ : ∃ z, z = h0.size := ⟨_, rfl⟩
  rw [← g2] at A2 st2
  refine Gl.pre (fun _ k => st2 _ k) ?_
  have g_b2 : n0 ≤ b2 := Nat.le_trans Z0 (Nat.le_of_eq g2.symm)
  have sz_b2 : h0.size ≤ b2 := Nat.le_trans K0.1 (Nat.le_of_eq g2.symm)
  have Z2 : n0 ≤ h2.size := Nat.le_trans Z0 E2.1
  have K2 := K0.ext E2
  have V_b2 : Bal Z h2 b2 .byte [(0 : Int32), (0 : Int32), (0 : Int32), (0 : Int32), (0 : Int32), (0 : Int32)] := Bal.new (ty := .byte) A2 (n := 6) (by decide) rfl
  show Gl p.tables e below PP (T2.setTop (mkF m 6 #[.val (.int (3 : Int32))] [(.ref b2)]))
  rw [hPP]
  refine own_finA (Q := (Qnf3 Z  h0 n0)) X2 hx hlk Bd.returns rfl rfl (hb hby d13_6) ?_ (by decide) (by decide)
  show Qnf3 Z  h0 n0 _ T2.heap _
  rw [e2]
  exact ⟨b2, rfl, N1, sz_b2, K2, V_b2⟩
theorem ef_pu2 (m : MethodId) (a1 : Addr) (pv : Int32) (xs : List Int32) : entryFrame m #[(.ref a1), (.int (2 : Int32)), (.int pv)] 3 = mkF m 0 #[.val (.ref a1), .val (.int (2 : Int32)), .val (.int pv)] [] := by first | (simp [entryFrame, mkF, argsToLocals, Value.category]; done) | rfl
def Qpu2 (Z : State) (a1 : Addr) (pv : Int32) (xs : List Int32) (h0 : Heap) (n0 : Nat) (v : Option Value) (h : Heap) (L : List Loc) : Prop := v = none ∧ Fr n0 L ∧ Keep h0 h [a1] ∧ Bal Z h a1 .byte ((xs.set 4 (nar .byte ((pv >>> ((0 : Int32) &&& 31)).toInt8.toInt32))).set 5 (nar .byte ((pv >>> ((8 : Int32) &&& 31)).toInt8.toInt32)))
set_option maxRecDepth 65536 in
set_option maxHeartbeats 40000000 in
theorem rmpu2 (l : Launch) (Z : State) (a0 : Array Value) (hw : ∀ d ∈ tables_1, d.before a0 Z = true) (ws : List Jvm.Cond) (a1 : Addr) (pv : Int32) (xs : List Int32) (h0 : Heap) (n0 : Nat) (Z0 : n0 ≤ h0.size) (V_a1 : Bal Z h0 a1 .byte xs) (g_a1 : n0 ≤ a1) (hlt : 5 < xs.length) (SAD : Sta Z Z.heap "java/lang/StringUTF16" "$assertionsDisabled" "Z" (.int (1 : Int32))) (SHI : Sta Z Z.heap "java/lang/StringUTF16" "HI_BYTE_SHIFT" "I" (.int (0 : Int32))) (SLO : Sta Z Z.heap "java/lang/StringUTF16" "LO_BYTE_SHIFT" "I" (.int (8 : Int32))) (O_ : Old Z n0 h0) :
    MetFree l (⟨"java/lang/StringUTF16", "putChar", "([BII)V"⟩ : MethodName) (head1 (Jvm.Cond.code (⟨"java/lang/StringUTF16", "putChar", "([BII)V"⟩ : MethodName) jdk_52_method_4_code 3 none :: ws) ({ frames := 0, cells := 0, slots := 0, locals := 0 } : Room)) (fun a U => a = #[(.ref a1), (.int (2 : Int32)), (.int pv)] ∧ Z.Warmed39 U.vm ∧ U.heap = h0) (fun _ _ _ _ _ => True) (fun _ U o U' => ∃ v L, o = .returned v ∧ Qpu2 Z a1 pv xs h0 n0 v U'.heap L ∧ FrameEnd U o U' L ({ frames := 0, cells := 0, slots := 0, locals := 0 } : Room).cells ({ frames := 0, cells := 0, slots := 0, locals := 0 } : Room).slots) := by
  refine MetFree.of_bodySF (plainFor_of_name pn_15) hisR ?_
  intro p e s m args below meth c s₁ Bd hml0 hP hK
  obtain ⟨rfl, hZ, hh⟩ := hP
  have hx := Bd.exec
  have hby := Bd.bytes
  have hlk : meth.locks = false := BodyLoose.notSynchronized Bd
  have hml : c.maxLocals = 3 := hml0
  have hown : s.vm.findClass "java/lang/StringUTF16" = some m.cls := findClass_of_methodNamed Bd.named
  have hnm := (name_of_methodNamed Bd.named Bd.method).1
  have X0 : Stand p l e ({ frames := 0, cells := 0, slots := 0, locals := 0 } : Room) s m #[(.ref a1), (.int (2 : Int32)), (.int pv)] below meth c s₁ [] 0 0 := Stand.of_body Bd
  have e0 : s₁.heap = h0 := by rw [← hh, Bd.state]; rfl
  have N0 := Fr.nil n0
  show Gl p.tables e below (fun (o : Outcome) (U' : State) => ∃ v L, o = .returned v ∧ Qpu2 Z a1 pv xs h0 n0 v U'.heap L ∧ FrameEnd s o U' L ({ frames := 0, cells := 0, slots := 0, locals := 0 } : Room).cells ({ frames := 0, cells := 0, slots := 0, locals := 0 } : Room).slots) _
  refine Gl.pre (fun t k => castTop (ef_pu2 m a1 pv xs) k) ?_
  obtain ⟨PP, hPP⟩ : ∃ P : Outcome → State → Prop, P = (fun (o : Outcome) (U' : State) => ∃ v L, o = .returned v ∧ Qpu2 Z a1 pv xs h0 n0 v U'.heap L ∧ FrameEnd s o U' L ({ frames := 0, cells := 0, slots := 0, locals := 0 } : Room).cells ({ frames := 0, cells := 0, slots := 0, locals := 0 } : Room).slots) := ⟨_, rfl⟩
  rw [← hPP]
  have K0 : Keep h0 h0 [a1] := Keep.refl h0 _
  show Gl p.tables e below PP (s₁.setTop (mkF m 0 #[.val (.ref a1), .val (.int (2 : Int32)), .val (.int pv)] []))
  obtain ⟨T1, X1, e1, st1⟩ := getS2 X0 hx hZ hown (host := "") (Or.inl (hw _ (List.mem_of_getElem? (i := 78) rfl))) Via.refl e0 (SAD.ext O_.2) (g := (mkF m 0 #[.val (.ref a1), .val (.int (2 : Int32)), .val (.int pv)] [])) rfl (hb hby d15_0)
  refine Gl.pre (fun _ k => st1 _ k) ?_
  show Gl p.tables e below PP (T1.setTop (mkF m 3 #[.val (.ref a1), .val (.int (2 : Int32)), .val (.int pv)] [(.int (1 : Int32))]))
  refine Gl.pre (fun _ k => XS.ifYes X1.here hx rfl (pc0 := 3) (pc' := 28) rfl (hb hby d15_3) rfl ((if0 _ _).trans (feq (show ¬ ((1 : Int32) = (0 : Int32)) from (by decide))).2) (by decide) (by decide) k) ?_
  show Gl p.tables e below PP (T1.setTop (mkF m 28 #[.val (.ref a1), .val (.int (2 : Int32)), .val (.int pv)] []))
  refine Gl.pre (fun _ k => XS.iloadN X1.here hx rfl (hb hby d15_28) rfl k) ?_
  show Gl p.tables e below PP (T1.setTop (mkF m 29 #[.val (.ref a1), .val (.int (2 : Int32)), .val (.int pv)] [(.int (2 : Int32))]))
  refine Gl.pre (fun _ k => XS.iconst X1.here hx rfl (hb hby d15_29) k) ?_
  show Gl p.tables e below PP (T1.setTop (mkF m 30 #[.val (.ref a1), .val (.int (2 : Int32)), .val (.int pv)] [(.int (1 : Int32)), (.int (2 : Int32))]))
  refine Gl.pre (fun _ k => XS.ishl X1.here hx rfl (hb hby d15_30) rfl k) ?_
  show Gl p.tables e below PP (T1.setTop (mkF m 31 #[.val (.ref a1), .val (.int (2 : Int32)), .val (.int pv)] [(.int ((2 : Int32) <<< ((1 : Int32) &&& 31)))]))
  rw [show ((2 : Int32) <<< ((1 : Int32) &&& 31)) = (4 : Int32) by decide]
  show Gl p.tables e below PP (T1.setTop (mkF m 31 #[.val (.ref a1), .val (.int (2 : Int32)), .val (.int pv)] [(.int (4 : Int32))]))
  refine Gl.pre (fun _ k => XS.istoreN X1.here hx rfl (hb hby d15_31) rfl (l' := #[.val (.ref a1), .val (.int (4 : Int32)), .val (.int pv)]) rfl k) ?_
  show Gl p.tables e below PP (T1.setTop (mkF m 32 #[.val (.ref a1), .val (.int (4 : Int32)), .val (.int pv)] []))
  refine Gl.pre (fun _ k => XS.aloadN X1.here hx rfl (hb hby d15_32) rfl rfl k) ?_
  show Gl p.tables e below PP (T1.setTop (mkF m 33 #[.val (.ref a1), .val (.int (4 : Int32)), .val (.int pv)] [(.ref a1)]))
  refine Gl.pre (fun _ k => XS.iloadN X1.here hx rfl (hb hby d15_33) rfl k) ?_
  show Gl p.tables e below PP (T1.setTop (mkF m 34 #[.val (.ref a1), .val (.int (4 : Int32)), .val (.int pv)] [(.int (4 : Int32)), (.ref a1)]))
  refine Gl.pre (fun _ k => XS.iinc X1.here hx rfl (hb hby d15_34) rfl (l' := #[.val (.ref a1), .val (.int (5 : Int32)), .val (.int pv)]) rfl k) ?_
  show Gl p.tables e below PP (T1.setTop (mkF m 37 #[.val (.ref a1), .val (.int (5 : Int32)), .val (.int pv)] [(.int (4 : Int32)), (.ref a1)]))
  refine Gl.pre (fun _ k => XS.iloadN X1.here hx rfl (hb hby d15_37) rfl k) ?_
  show Gl p.tables e below PP (T1.setTop (mkF m 38 #[.val (.ref a1), .val (.int (5 : Int32)), .val (.int pv)] [(.int pv), (.int (4 : Int32)), (.ref a1)]))
  obtain ⟨T2, X2, e2, st2⟩ := getS2 X1 hx hZ hown (host := "") (Or.inl (hw _ (List.mem_of_getElem? (i := 79) rfl))) Via.refl e1 (SHI.ext O_.2) (g := (mkF m 38 #[.val (.ref a1), .val (.int (5 : Int32)), .val (.int pv)] [(.int pv), (.int (4 : Int32)), (.ref a1)])) rfl (hb hby d15_38)
  refine Gl.pre (fun _ k => st2 _ k) ?_
  show Gl p.tables e below PP (T2.setTop (mkF m 41 #[.val (.ref a1), .val (.int (5 : Int32)), .val (.int pv)] [(.int (0 : Int32)), (.int pv), (.int (4 : Int32)), (.ref a1)]))
  refine Gl.pre (fun _ k => XS.ishr X2.here hx rfl (hb hby d15_41) rfl k) ?_
  show Gl p.tables e below PP (T2.setTop (mkF m 42 #[.val (.ref a1), .val (.int (5 : Int32)), .val (.int pv)] [(.int (pv >>> ((0 : Int32) &&& 31))), (.int (4 : Int32)), (.ref a1)]))
  refine Gl.pre (fun _ k => XS.i2b X2.here hx rfl (hb hby d15_42) rfl k) ?_
  show Gl p.tables e below PP (T2.setTop (mkF m 43 #[.val (.ref a1), .val (.int (5 : Int32)), .val (.int pv)] [(.int ((pv >>> ((0 : Int32) &&& 31)).toInt8.toInt32)), (.int (4 : Int32)), (.ref a1)]))
  obtain ⟨T3, h3, X3, e3, W3, V3, st3⟩ := own_stB X2 hx hZ e2 V_a1 (j := (4 : Int32)) (i := 4) (by decide) (by decide) (Nat.lt_of_succ_lt hlt) (g := (mkF m 43 #[.val (.ref a1), .val (.int (5 : Int32)), .val (.int pv)] [(.int ((pv >>> ((0 : Int32) &&& 31)).toInt8.toInt32)), (.int (4 : Int32)), (.ref a1)])) rfl rfl (hb hby d15_43)
  refine Gl.pre (fun _ k => st3 _ k) ?_
  have O_ := O_.wr W3 g_a1
  have Z3 : n0 ≤ h3.size := by rw [W3.size]; exact Z0
  have N3 := Fr.snoc X3 N0 g_a1
  have K3 := K0.wr W3 (Or.inl (List.mem_of_getElem? (i := 0) rfl))
  have V_a1 := V3
  show Gl p.tables e below PP (T3.setTop (mkF m 44 #[.val (.ref a1), .val (.int (5 : Int32)), .val (.int pv)] []))
  refine Gl.pre (fun _ k => XS.aloadN X3.here hx rfl (hb hby d15_44) rfl rfl k) ?_
  show Gl p.tables e below PP (T3.setTop (mkF m 45 #[.val (.ref a1), .val (.int (5 : Int32)), .val (.int pv)] [(.ref a1)]))
  refine Gl.pre (fun _ k => XS.iloadN X3.here hx rfl (hb hby d15_45) rfl k) ?_
  show Gl p.tables e below PP (T3.setTop (mkF m 46 #[.val (.ref a1), .val (.int (5 : Int32)), .val (.int pv)] [(.int (5 : Int32)), (.ref a1)]))
  refine Gl.pre (fun _ k => XS.iloadN X3.here hx rfl (hb hby d15_46) rfl k) ?_
  show Gl p.tables e below PP (T3.setTop (mkF m 47 #[.val (.ref a1), .val (.int (5 : Int32)), .val (.int pv)] [(.int pv), (.int (5 : Int32)), (.ref a1)]))
  obtain ⟨T4, X4, e4, st4⟩ := getS2 X3 hx hZ hown (host := "") (Or.inl (hw _ (List.mem_of_getElem? (i := 80) rfl))) Via.refl e3 (SLO.ext O_.2) (g := (mkF m 47 #[.val (.ref a1), .val (.int (5 : Int32)), .val (.int pv)] [(.int pv), (.int (5 : Int32)), (.ref a1)])) rfl (hb hby d15_47)
  refine Gl.pre (fun _ k => st4 _ k) ?_
  show Gl p.tables e below PP (T4.setTop (mkF m 50 #[.val (.ref a1), .val (.int (5 : Int32)), .val (.int pv)] [(.int (8 : Int32)), (.int pv), (.int (5 : Int32)), (.ref a1)]))
  refine Gl.pre (fun _ k => XS.ishr X4.here hx rfl (hb hby d15_50) rfl k) ?_
  show Gl p.tables e below PP (T4.setTop (mkF m 51 #[.val (.ref a1), .val (.int (5 : Int32)), .val (.int pv)] [(.int (pv >>> ((8 : Int32) &&& 31))), (.int (5 : Int32)), (.ref a1)]))
  refine Gl.pre (fun _ k => XS.i2b X4.here hx rfl (hb hby d15_51) rfl k) ?_
  show Gl p.tables e below PP (T4.setTop (mkF m 52 #[.val (.ref a1), .val (.int (5 : Int32)), .val (.int pv)] [(.int ((pv >>> ((8 : Int32) &&& 31)).toInt8.toInt32)), (.int (5 : Int32)), (.ref a1)]))
  obtain ⟨T5, h5, X5, e5, W5, V5, st5⟩ := own_stB X4 hx hZ e4 V_a1 (j := (5 : Int32)) (i := 5) (by decide) (by decide) (by rw [List.length_set]; exact hlt) (g := (mkF m 52 #[.val (.ref a1), .val (.int (5 : Int32)), .val (.int pv)] [(.int ((pv >>> ((8 : Int32) &&& 31)).toInt8.toInt32)), (.int (5 : Int32)), (.ref a1)])) rfl rfl (hb hby d15_52)
  refine Gl.pre (fun _ k => st5 _ k) ?_
  have O_ := O_.wr W5 g_a1
  have Z5 : n0 ≤ h5.size := by rw [W5.size]; exact Z3
  have N5 := Fr.snoc X5 N3 g_a1
  have K5 := K3.wr W5 (Or.inl (List.mem_of_getElem? (i := 0) rfl))
  have V_a1 := V5
  show Gl p.tables e below PP (T5.setTop (mkF m 53 #[.val (.ref a1), .val (.int (5 : Int32)), .val (.int pv)] []))
  rw [hPP]
  refine own_finV (Q := (Qpu2 Z a1 pv xs h0 n0)) X5 hx hlk Bd.returns (hb hby d15_53) ?_ (by decide) (by decide)
  show Qpu2 Z a1 pv xs h0 n0 _ T5.heap _
  rw [e5]
  exact ⟨rfl, N5, K5, V_a1⟩
theorem ef_tb3 (m : MethodId) (a1 : Addr) (c0 : Int32) (c1 : Int32) (c2 : Int32) : entryFrame m #[(.ref a1), (.int (0 : Int32)), (.int (3 : Int32))] 5 = mkF m 0 #[.val (.ref a1), .val (.int (0 : Int32)), .val (.int (3 : Int32)), .unset, .unset] [] := by first | (simp [entryFrame, mkF, argsToLocals, Value.category]; done) | rfl
def Qtb3 (Z : State) (a1 : Addr) (c0 : Int32) (c1 : Int32) (c2 : Int32) (h0 : Heap) (n0 : Nat) (v : Option Value) (h : Heap) (L : List Loc) : Prop := ∃ b : Addr, v = some (.ref b) ∧ Fr n0 L ∧ h0.size ≤ b ∧ Keep h0 h [] ∧ Bal Z h b .byte [(nar .byte ((c0 >>> ((0 : Int32) &&& 31)).toInt8.toInt32)), (nar .byte ((c0 >>> ((8 : Int32) &&& 31)).toInt8.toInt32)), (nar .byte ((c1 >>> ((0 : Int32) &&& 31)).toInt8.toInt32)), (nar .byte ((c1 >>> ((8 : Int32) &&& 31)).toInt8.toInt32)), (nar .byte ((c2 >>> ((0 : Int32) &&& 31)).toInt8.toInt32)), (nar .byte ((c2 >>> ((8 : Int32) &&& 31)).toInt8.toInt32))]
set_option maxRecDepth 65536 in
set_option maxHeartbeats 40000000 in
theorem rmtb3 (l : Launch) (Z : State) (a0 : Array Value) (hw : ∀ d ∈ tables_1, d.before a0 Z = true) (ws : List Jvm.Cond) (a1 : Addr) (c0 : Int32) (c1 : Int32) (c2 : Int32) (h0 : Heap) (n0 : Nat) (Z0 : n0 ≤ h0.size) (V_a1 : Bal Z h0 a1 .char [c0, c1, c2]) (SAD : Sta Z Z.heap "java/lang/StringUTF16" "$assertionsDisabled" "Z" (.int (1 : Int32))) (SHI : Sta Z Z.heap "java/lang/StringUTF16" "HI_BYTE_SHIFT" "I" (.int (0 : Int32))) (SLO : Sta Z Z.heap "java/lang/StringUTF16" "LO_BYTE_SHIFT" "I" (.int (8 : Int32))) (O_ : Old Z n0 h0) :
    MetFree l (⟨"java/lang/StringUTF16", "toBytes", "([CII)[B"⟩ : MethodName) (head1 (Jvm.Cond.code (⟨"java/lang/StringUTF16", "toBytes", "([CII)[B"⟩ : MethodName) jdk_52_method_14_code 5 (some (.array .byte)) :: ws) ({ frames := 2, cells := 1, slots := 6, locals := 24 } : Room)) (fun a U => a = #[(.ref a1), (.int (0 : Int32)), (.int (3 : Int32))] ∧ Z.Warmed39 U.vm ∧ U.heap = h0) (fun _ _ _ _ _ => True) (fun _ U o U' => ∃ v L, o = .returned v ∧ Qtb3 Z a1 c0 c1 c2 h0 n0 v U'.heap L ∧ FrameEnd U o U' L ({ frames := 2, cells := 1, slots := 6, locals := 24 } : Room).cells ({ frames := 2, cells := 1, slots := 6, locals := 24 } : Room).slots) := by
  refine MetFree.of_bodySF (plainFor_of_name pn_12) hisR ?_
  intro p e s m args below meth c s₁ Bd hml0 hP hK
  obtain ⟨rfl, hZ, hh⟩ := hP
  have hx := Bd.exec
  have hby := Bd.bytes
  have hlk : meth.locks = false := BodyLoose.notSynchronized Bd
  have hml : c.maxLocals = 5 := hml0
  have hown : s.vm.findClass "java/lang/StringUTF16" = some m.cls := findClass_of_methodNamed Bd.named
  have hnm := (name_of_methodNamed Bd.named Bd.method).1
  have X0 : Stand p l e ({ frames := 2, cells := 1, slots := 6, locals := 24 } : Room) s m #[(.ref a1), (.int (0 : Int32)), (.int (3 : Int32))] below meth c s₁ [] 0 0 := Stand.of_body Bd
  have e0 : s₁.heap = h0 := by rw [← hh, Bd.state]; rfl
  have N0 := Fr.nil n0
  show Gl p.tables e below (fun (o : Outcome) (U' : State) => ∃ v L, o = .returned v ∧ Qtb3 Z a1 c0 c1 c2 h0 n0 v U'.heap L ∧ FrameEnd s o U' L ({ frames := 2, cells := 1, slots := 6, locals := 24 } : Room).cells ({ frames := 2, cells := 1, slots := 6, locals := 24 } : Room).slots) _
  refine Gl.pre (fun t k => castTop (ef_tb3 m a1 c0 c1 c2) k) ?_
  obtain ⟨PP, hPP⟩ : ∃ P : Outcome → State → Prop, P = (fun (o : Outcome) (U' : State) => ∃ v L, o = .returned v ∧ Qtb3 Z a1 c0 c1 c2 h0 n0 v U'.heap L ∧ FrameEnd s o U' L ({ frames := 2, cells := 1, slots := 6, locals := 24 } : Room).cells ({ frames := 2, cells := 1, slots := 6, locals := 24 } : Room).slots) := ⟨_, rfl⟩
  rw [← hPP]
  have K0 : Keep h0 h0 [] := Keep.refl h0 _
  show Gl p.tables e below PP (s₁.setTop (mkF m 0 #[.val (.ref a1), .val (.int (0 : Int32)), .val (.int (3 : Int32)), .unset, .unset] []))
  refine Gl.pre (fun _ k => XS.iloadN X0.here hx rfl (hb hby d12_0) rfl k) ?_
  show Gl p.tables e below PP (s₁.setTop (mkF m 1 #[.val (.ref a1), .val (.int (0 : Int32)), .val (.int (3 : Int32)), .unset, .unset] [(.int (3 : Int32))]))
  obtain ⟨_, _, ⟨T1, L1, k1, n1⟩, -, X1, ⟨Lc1, hQ1, l1, y1, z1⟩, st1⟩ := Jvm.LawKit.callS X0 hx (y := (⟨"java/lang/StringUTF16", "newBytesFor", "(I)[B"⟩ : MethodName)) hown (mvT hZ (hw _ (List.mem_of_getElem? (i := 68) rfl))) (mvT hZ (hw _ (List.mem_of_getElem? (i := 69) rfl))) (mvT hZ (hw _ (List.mem_of_getElem? (i := 57) rfl))) (mvT hZ (hw _ (List.mem_of_getElem? (i := 70) rfl))) (by decide) (backOf (W := 0) (rmnf3 l Z a0 hw []  h0 n0 Z0 ) hZ (hw _ (List.mem_of_getElem? (i := 70) rfl)) (hw _ (List.mem_of_getElem? (i := 57) rfl)) (by decide) (by decide)) (g := (mkF m 1 #[.val (.ref a1), .val (.int (0 : Int32)), .val (.int (3 : Int32)), .unset, .unset] [(.int (3 : Int32))])) rfl (by rw [hml]; rfl) (argsL := [(.int (3 : Int32))]) (rest := []) (lenOf pd_1 rfl) rfl (by show 2 * 0 + _ ≤ _; exact Nat.le_of_eq rfl) (hb hby d12_1) (fun _ _ => ⟨rfl, e0, (by decide : 0 + 1 ≤ _), (by decide : 0 + 6 ≤ _)⟩)
  dsimp only [Pt.U, Pt.locs, Pt.cells, Pt.slots] at X1 l1 y1 z1 st1 hQ1
  subst l1 y1 z1
  obtain ⟨bn1, rfl, N1q, hz1, K1, V1q⟩ := hQ1
  have N1 := Fr.app N0 N1q
  refine Gl.pre (fun _ k => st1 _ k) ?_
  have own_ne_a1_bn1 : a1 ≠ bn1 := Nat.ne_of_lt (Nat.lt_of_lt_of_le V_a1.lt hz1)
  have own_ne_bn1_a1 := own_ne_a1_bn1.symm
  have g_bn1 : n0 ≤ bn1 := Nat.le_trans Z0 hz1
  have sz_bn1 : h0.size ≤ bn1 := Nat.le_trans K0.1 hz1
  have V_a1 := V_a1.keep K1 nin0
  have O_ := O_.keep K1 all0
  have Z1 : n0 ≤ T1.heap.size := Nat.le_trans Z0 K1.1
  have K1k := K0.trans K1 all0
  have V_bn1 := V1q
  show Gl p.tables e below PP (T1.setTop (mkF m 4 #[.val (.ref a1), .val (.int (0 : Int32)), .val (.int (3 : Int32)), .unset, .unset] [(.ref bn1)]))
  refine Gl.pre (fun _ k => XS.astoreN X1.here hx rfl (hb hby d12_4) rfl rfl (l' := #[.val (.ref a1), .val (.int (0 : Int32)), .val (.int (3 : Int32)), .val (.ref bn1), .unset]) rfl k) ?_
  show Gl p.tables e below PP (T1.setTop (mkF m 5 #[.val (.ref a1), .val (.int (0 : Int32)), .val (.int (3 : Int32)), .val (.ref bn1), .unset] []))
  refine Gl.pre (fun _ k => XS.iconst X1.here hx rfl (hb hby d12_5) k) ?_
  show Gl p.tables e below PP (T1.setTop (mkF m 6 #[.val (.ref a1), .val (.int (0 : Int32)), .val (.int (3 : Int32)), .val (.ref bn1), .unset] [(.int (0 : Int32))]))
  refine Gl.pre (fun _ k => XS.istore X1.here hx rfl (hb hby d12_6) rfl (l' := #[.val (.ref a1), .val (.int (0 : Int32)), .val (.int (3 : Int32)), .val (.ref bn1), .val (.int (0 : Int32))]) rfl k) ?_
  show Gl p.tables e below PP (T1.setTop (mkF m 8 #[.val (.ref a1), .val (.int (0 : Int32)), .val (.int (3 : Int32)), .val (.ref bn1), .val (.int (0 : Int32))] []))
  refine Gl.pre (fun _ k => XS.iload X1.here hx rfl (hb hby d12_8) rfl k) ?_
  show Gl p.tables e below PP (T1.setTop (mkF m 10 #[.val (.ref a1), .val (.int (0 : Int32)), .val (.int (3 : Int32)), .val (.ref bn1), .val (.int (0 : Int32))] [(.int (0 : Int32))]))
  refine Gl.pre (fun _ k => XS.iloadN X1.here hx rfl (hb hby d12_10) rfl k) ?_
  show Gl p.tables e below PP (T1.setTop (mkF m 11 #[.val (.ref a1), .val (.int (0 : Int32)), .val (.int (3 : Int32)), .val (.ref bn1), .val (.int (0 : Int32))] [(.int (3 : Int32)), (.int (0 : Int32))]))
  refine Gl.pre (fun _ k => XS.icmpNo X1.here hx rfl (hb hby d12_11) rfl (tlt (show (0 : Int32) < (3 : Int32) from (by decide))).2.1 k) ?_
  show Gl p.tables e below PP (T1.setTop (mkF m 14 #[.val (.ref a1), .val (.int (0 : Int32)), .val (.int (3 : Int32)), .val (.ref bn1), .val (.int (0 : Int32))] []))
  refine Gl.pre (fun _ k => XS.aloadN X1.here hx rfl (hb hby d12_14) rfl rfl k) ?_
  show Gl p.tables e below PP (T1.setTop (mkF m 15 #[.val (.ref a1), .val (.int (0 : Int32)), .val (.int (3 : Int32)), .val (.ref bn1), .val (.int (0 : Int32))] [(.ref bn1)]))
  refine Gl.pre (fun _ k => XS.iload X1.here hx rfl (hb hby d12_15) rfl k) ?_
  show Gl p.tables e below PP (T1.setTop (mkF m 17 #[.val (.ref a1), .val (.int (0 : Int32)), .val (.int (3 : Int32)), .val (.ref bn1), .val (.int (0 : Int32))] [(.int (0 : Int32)), (.ref bn1)]))
  refine Gl.pre (fun _ k => XS.aloadN X1.here hx rfl (hb hby d12_17) rfl rfl k) ?_
  show Gl p.tables e below PP (T1.setTop (mkF m 18 #[.val (.ref a1), .val (.int (0 : Int32)), .val (.int (3 : Int32)), .val (.ref bn1), .val (.int (0 : Int32))] [(.ref a1), (.int (0 : Int32)), (.ref bn1)]))
  refine Gl.pre (fun _ k => XS.iloadN X1.here hx rfl (hb hby d12_18) rfl k) ?_
  show Gl p.tables e below PP (T1.setTop (mkF m 19 #[.val (.ref a1), .val (.int (0 : Int32)), .val (.int (3 : Int32)), .val (.ref bn1), .val (.int (0 : Int32))] [(.int (0 : Int32)), (.ref a1), (.int (0 : Int32)), (.ref bn1)]))
  refine Gl.pre (fun _ k => own_ldC X1 hx hZ rfl V_a1 (j := (0 : Int32)) (i := 0) (by decide) (by decide) (Nat.lt_of_lt_of_eq (by decide : 0 < 3) rfl) (v := c0) rfl (g := (mkF m 19 #[.val (.ref a1), .val (.int (0 : Int32)), .val (.int (3 : Int32)), .val (.ref bn1), .val (.int (0 : Int32))] [(.int (0 : Int32)), (.ref a1), (.int (0 : Int32)), (.ref bn1)])) rfl rfl (hb hby d12_19) _ k) ?_
  show Gl p.tables e below PP (T1.setTop (mkF m 20 #[.val (.ref a1), .val (.int (0 : Int32)), .val (.int (3 : Int32)), .val (.ref bn1), .val (.int (0 : Int32))] [(.int c0), (.int (0 : Int32)), (.ref bn1)]))
  obtain ⟨_, _, ⟨T2, L2, k2, n2⟩, -, X2, ⟨Lc2, hQ2, l2, y2, z2⟩, st2⟩ := Jvm.LawKit.callS X1 hx (y := (⟨"java/lang/StringUTF16", "putChar", "([BII)V"⟩ : MethodName)) hown (mvT hZ (hw _ (List.mem_of_getElem? (i := 75) rfl))) (mvT hZ (hw _ (List.mem_of_getElem? (i := 76) rfl))) (mvT hZ (hw _ (List.mem_of_getElem? (i := 57) rfl))) (mvT hZ (hw _ (List.mem_of_getElem? (i := 77) rfl))) (by decide) (backOf (W := 0) (rmpu0 l Z a0 hw [] bn1 c0 ([(0 : Int32), (0 : Int32), (0 : Int32), (0 : Int32), (0 : Int32), (0 : Int32)]) T1.heap n0 Z1 V_bn1 g_bn1 (Nat.lt_of_lt_of_eq (by decide : 1 < 6) rfl) SAD SHI SLO O_) hZ (hw _ (List.mem_of_getElem? (i := 77) rfl)) (hw _ (List.mem_of_getElem? (i := 57) rfl)) (by decide) (by decide)) (g := (mkF m 20 #[.val (.ref a1), .val (.int (0 : Int32)), .val (.int (3 : Int32)), .val (.ref bn1), .val (.int (0 : Int32))] [(.int c0), (.int (0 : Int32)), (.ref bn1)])) rfl (by rw [hml]; rfl) (argsL := [(.ref bn1), (.int (0 : Int32)), (.int c0)]) (rest := []) (lenOf pd_2 rfl) rfl (by show 2 * 0 + _ ≤ _; exact Nat.le_of_eq rfl) (hb hby d12_20) (fun _ _ => ⟨rfl, rfl, (by decide : 1 + 0 ≤ _), (by decide : 6 + 0 ≤ _)⟩)
  dsimp only [Pt.U, Pt.locs, Pt.cells, Pt.slots] at X2 l2 y2 z2 st2 hQ2
  subst l2 y2 z2
  obtain ⟨rfl, N2q, K2, V2q⟩ := hQ2
  have N2 := Fr.app N1 N2q
  refine Gl.pre (fun _ k => st2 _ k) ?_
  have V_a1 := V_a1.keep K2 (ninS (own_ne_a1_bn1) nin0)
  have O_ := O_.keep K2 (allS g_bn1 all0)
  have Z2 : n0 ≤ T2.heap.size := Nat.le_trans Z1 K2.1
  have K2k := K1k.trans K2 (allS (Or.inr sz_bn1) all0)
  have V_bn1 : Bal Z T2.heap bn1 .byte [(nar .byte ((c0 >>> ((0 : Int32) &&& 31)).toInt8.toInt32)), (nar .byte ((c0 >>> ((8 : Int32) &&& 31)).toInt8.toInt32)), (0 : Int32), (0 : Int32), (0 : Int32), (0 : Int32)] := V2q
  show Gl p.tables e below PP (T2.setTop (mkF m 23 #[.val (.ref a1), .val (.int (0 : Int32)), .val (.int (3 : Int32)), .val (.ref bn1), .val (.int (0 : Int32))] []))
  refine Gl.pre (fun _ k => XS.iinc X2.here hx rfl (hb hby d12_23) rfl (l' := #[.val (.ref a1), .val (.int (1 : Int32)), .val (.int (3 : Int32)), .val (.ref bn1), .val (.int (0 : Int32))]) rfl k) ?_
  show Gl p.tables e below PP (T2.setTop (mkF m 26 #[.val (.ref a1), .val (.int (1 : Int32)), .val (.int (3 : Int32)), .val (.ref bn1), .val (.int (0 : Int32))] []))
  refine Gl.pre (fun _ k => XS.iinc X2.here hx rfl (hb hby d12_26) rfl (l' := #[.val (.ref a1), .val (.int (1 : Int32)), .val (.int (3 : Int32)), .val (.ref bn1), .val (.int (1 : Int32))]) rfl k) ?_
  show Gl p.tables e below PP (T2.setTop (mkF m 29 #[.val (.ref a1), .val (.int (1 : Int32)), .val (.int (3 : Int32)), .val (.ref bn1), .val (.int (1 : Int32))] []))
  refine Gl.pre (fun _ k => XS.goto X2.here hx rfl (pc0 := 29) (pc' := 8) rfl (hb hby d12_29) (by decide) (by decide) k) ?_
  show Gl p.tables e below PP (T2.setTop (mkF m 8 #[.val (.ref a1), .val (.int (1 : Int32)), .val (.int (3 : Int32)), .val (.ref bn1), .val (.int (1 : Int32))] []))
  refine Gl.pre (fun _ k => XS.iload X2.here hx rfl (hb hby d12_8) rfl k) ?_
  show Gl p.tables e below PP (T2.setTop (mkF m 10 #[.val (.ref a1), .val (.int (1 : Int32)), .val (.int (3 : Int32)), .val (.ref bn1), .val (.int (1 : Int32))] [(.int (1 : Int32))]))
  refine Gl.pre (fun _ k => XS.iloadN X2.here hx rfl (hb hby d12_10) rfl k) ?_
  show Gl p.tables e below PP (T2.setTop (mkF m 11 #[.val (.ref a1), .val (.int (1 : Int32)), .val (.int (3 : Int32)), .val (.ref bn1), .val (.int (1 : Int32))] [(.int (3 : Int32)), (.int (1 : Int32))]))
  refine Gl.pre (fun _ k => XS.icmpNo X2.here hx rfl (hb hby d12_11) rfl (tlt (show (1 : Int32) < (3 : Int32) from (by decide))).2.1 k) ?_
  show Gl p.tables e below PP (T2.setTop (mkF m 14 #[.val (.ref a1), .val (.int (1 : Int32)), .val (.int (3 : Int32)), .val (.ref bn1), .val (.int (1 : Int32))] []))
  refine Gl.pre (fun _ k => XS.aloadN X2.here hx rfl (hb hby d12_14) rfl rfl k) ?_
  show Gl p.tables e below PP (T2.setTop (mkF m 15 #[.val (.ref a1), .val (.int (1 : Int32)), .val (.int (3 : Int32)), .val (.ref bn1), .val (.int (1 : Int32))] [(.ref bn1)]))
  refine Gl.pre (fun _ k => XS.iload X2.here hx rfl (hb hby d12_15) rfl k) ?_
  show Gl p.tables e below PP (T2.setTop (mkF m 17 #[.val (.ref a1), .val (.int (1 : Int32)), .val (.int (3 : Int32)), .val (.ref bn1), .val (.int (1 : Int32))] [(.int (1 : Int32)), (.ref bn1)]))
  refine Gl.pre (fun _ k => XS.aloadN X2.here hx rfl (hb hby d12_17) rfl rfl k) ?_
  show Gl p.tables e below PP (T2.setTop (mkF m 18 #[.val (.ref a1), .val (.int (1 : Int32)), .val (.int (3 : Int32)), .val (.ref bn1), .val (.int (1 : Int32))] [(.ref a1), (.int (1 : Int32)), (.ref bn1)]))
  refine Gl.pre (fun _ k => XS.iloadN X2.here hx rfl (hb hby d12_18) rfl k) ?_
  show Gl p.tables e below PP (T2.setTop (mkF m 19 #[.val (.ref a1), .val (.int (1 : Int32)), .val (.int (3 : Int32)), .val (.ref bn1), .val (.int (1 : Int32))] [(.int (1 : Int32)), (.ref a1), (.int (1 : Int32)), (.ref bn1)]))
  refine Gl.pre (fun _ k => own_ldC X2 hx hZ rfl V_a1 (j := (1 : Int32)) (i := 1) (by decide) (by decide) (Nat.lt_of_lt_of_eq (by decide : 1 < 3) rfl) (v := c1) rfl (g := (mkF m 19 #[.val (.ref a1), .val (.int (1 : Int32)), .val (.int (3 : Int32)), .val (.ref bn1), .val (.int (1 : Int32))] [(.int (1 : Int32)), (.ref a1), (.int (1 : Int32)), (.ref bn1)])) rfl rfl (hb hby d12_19) _ k) ?_
  show Gl p.tables e below PP (T2.setTop (mkF m 20 #[.val (.ref a1), .val (.int (1 : Int32)), .val (.int (3 : Int32)), .val (.ref bn1), .val (.int (1 : Int32))] [(.int c1), (.int (1 : Int32)), (.ref bn1)]))
  obtain ⟨_, _, ⟨T3, L3, k3, n3⟩, -, X3, ⟨Lc3, hQ3, l3, y3, z3⟩, st3⟩ := Jvm.LawKit.callS X2 hx (y := (⟨"java/lang/StringUTF16", "putChar", "([BII)V"⟩ : MethodName)) hown (mvT hZ (hw _ (List.mem_of_getElem? (i := 75) rfl))) (mvT hZ (hw _ (List.mem_of_getElem? (i := 76) rfl))) (mvT hZ (hw _ (List.mem_of_getElem? (i := 57) rfl))) (mvT hZ (hw _ (List.mem_of_getElem? (i := 77) rfl))) (by decide) (backOf (W := 0) (rmpu1 l Z a0 hw [] bn1 c1 ([(nar .byte ((c0 >>> ((0 : Int32) &&& 31)).toInt8.toInt32)), (nar .byte ((c0 >>> ((8 : Int32) &&& 31)).toInt8.toInt32)), (0 : Int32), (0 : Int32), (0 : Int32), (0 : Int32)]) T2.heap n0 Z2 V_bn1 g_bn1 (Nat.lt_of_lt_of_eq (by decide : 3 < 6) rfl) SAD SHI SLO O_) hZ (hw _ (List.mem_of_getElem? (i := 77) rfl)) (hw _ (List.mem_of_getElem? (i := 57) rfl)) (by decide) (by decide)) (g := (mkF m 20 #[.val (.ref a1), .val (.int (1 : Int32)), .val (.int (3 : Int32)), .val (.ref bn1), .val (.int (1 : Int32))] [(.int c1), (.int (1 : Int32)), (.ref bn1)])) rfl (by rw [hml]; rfl) (argsL := [(.ref bn1), (.int (1 : Int32)), (.int c1)]) (rest := []) (lenOf pd_2 rfl) rfl (by show 2 * 0 + _ ≤ _; exact Nat.le_of_eq rfl) (hb hby d12_20) (fun _ _ => ⟨rfl, rfl, (by decide : 1 + 0 ≤ _), (by decide : 6 + 0 ≤ _)⟩)
  dsimp only [Pt.U, Pt.locs, Pt.cells, Pt.slots] at X3 l3 y3 z3 st3 hQ3
  subst l3 y3 z3
  obtain ⟨rfl, N3q, K3, V3q⟩ := hQ3
  have N3 := Fr.app N2 N3q
  refine Gl.pre (fun _ k => st3 _ k) ?_
  have V_a1 := V_a1.keep K3 (ninS (own_ne_a1_bn1) nin0)
  have O_ := O_.keep K3 (allS g_bn1 all0)
  have Z3 : n0 ≤ T3.heap.size := Nat.le_trans Z2 K3.1
  have K3k := K2k.trans K3 (allS (Or.inr sz_bn1) all0)
  have V_bn1 : Bal Z T3.heap bn1 .byte [(nar .byte ((c0 >>> ((0 : Int32) &&& 31)).toInt8.toInt32)), (nar .byte ((c0 >>> ((8 : Int32) &&& 31)).toInt8.toInt32)), (nar .byte ((c1 >>> ((0 : Int32) &&& 31)).toInt8.toInt32)), (nar .byte ((c1 >>> ((8 : Int32) &&& 31)).toInt8.toInt32)), (0 : Int32), (0 : Int32)] := V3q
  show Gl p.tables e below PP (T3.setTop (mkF m 23 #[.val (.ref a1), .val (.int (1 : Int32)), .val (.int (3 : Int32)), .val (.ref bn1), .val (.int (1 : Int32))] []))
  refine Gl.pre (fun _ k => XS.iinc X3.here hx rfl (hb hby d12_23) rfl (l' := #[.val (.ref a1), .val (.int (2 : Int32)), .val (.int (3 : Int32)), .val (.ref bn1), .val (.int (1 : Int32))]) rfl k) ?_
  show Gl p.tables e below PP (T3.setTop (mkF m 26 #[.val (.ref a1), .val (.int (2 : Int32)), .val (.int (3 : Int32)), .val (.ref bn1), .val (.int (1 : Int32))] []))
  refine Gl.pre (fun _ k => XS.iinc X3.here hx rfl (hb hby d12_26) rfl (l' := #[.val (.ref a1), .val (.int (2 : Int32)), .val (.int (3 : Int32)), .val (.ref bn1), .val (.int (2 : Int32))]) rfl k) ?_
  show Gl p.tables e below PP (T3.setTop (mkF m 29 #[.val (.ref a1), .val (.int (2 : Int32)), .val (.int (3 : Int32)), .val (.ref bn1), .val (.int (2 : Int32))] []))
  refine Gl.pre (fun _ k => XS.goto X3.here hx rfl (pc0 := 29) (pc' := 8) rfl (hb hby d12_29) (by decide) (by decide) k) ?_
  show Gl p.tables e below PP (T3.setTop (mkF m 8 #[.val (.ref a1), .val (.int (2 : Int32)), .val (.int (3 : Int32)), .val (.ref bn1), .val (.int (2 : Int32))] []))
  refine Gl.pre (fun _ k => XS.iload X3.here hx rfl (hb hby d12_8) rfl k) ?_
  show Gl p.tables e below PP (T3.setTop (mkF m 10 #[.val (.ref a1), .val (.int (2 : Int32)), .val (.int (3 : Int32)), .val (.ref bn1), .val (.int (2 : Int32))] [(.int (2 : Int32))]))
  refine Gl.pre (fun _ k => XS.iloadN X3.here hx rfl (hb hby d12_10) rfl k) ?_
  show Gl p.tables e below PP (T3.setTop (mkF m 11 #[.val (.ref a1), .val (.int (2 : Int32)), .val (.int (3 : Int32)), .val (.ref bn1), .val (.int (2 : Int32))] [(.int (3 : Int32)), (.int (2 : Int32))]))
  refine Gl.pre (fun _ k => XS.icmpNo X3.here hx rfl (hb hby d12_11) rfl (tlt (show (2 : Int32) < (3 : Int32) from (by decide))).2.1 k) ?_
  show Gl p.tables e below PP (T3.setTop (mkF m 14 #[.val (.ref a1), .val (.int (2 : Int32)), .val (.int (3 : Int32)), .val (.ref bn1), .val (.int (2 : Int32))] []))
  refine Gl.pre (fun _ k => XS.aloadN X3.here hx rfl (hb hby d12_14) rfl rfl k) ?_
  show Gl p.tables e below PP (T3.setTop (mkF m 15 #[.val (.ref a1), .val (.int (2 : Int32)), .val (.int (3 : Int32)), .val (.ref bn1), .val (.int (2 : Int32))] [(.ref bn1)]))
  refine Gl.pre (fun _ k => XS.iload X3.here hx rfl (hb hby d12_15) rfl k) ?_
  show Gl p.tables e below PP (T3.setTop (mkF m 17 #[.val (.ref a1), .val (.int (2 : Int32)), .val (.int (3 : Int32)), .val (.ref bn1), .val (.int (2 : Int32))] [(.int (2 : Int32)), (.ref bn1)]))
  refine Gl.pre (fun _ k => XS.aloadN X3.here hx rfl (hb hby d12_17) rfl rfl k) ?_
  show Gl p.tables e below PP (T3.setTop (mkF m 18 #[.val (.ref a1), .val (.int (2 : Int32)), .val (.int (3 : Int32)), .val (.ref bn1), .val (.int (2 : Int32))] [(.ref a1), (.int (2 : Int32)), (.ref bn1)]))
  refine Gl.pre (fun _ k => XS.iloadN X3.here hx rfl (hb hby d12_18) rfl k) ?_
  show Gl p.tables e below PP (T3.setTop (mkF m 19 #[.val (.ref a1), .val (.int (2 : Int32)), .val (.int (3 : Int32)), .val (.ref bn1), .val (.int (2 : Int32))] [(.int (2 : Int32)), (.ref a1), (.int (2 : Int32)), (.ref bn1)]))
  refine Gl.pre (fun _ k => own_ldC X3 hx hZ rfl V_a1 (j := (2 : Int32)) (i := 2) (by decide) (by decide) (Nat.lt_of_lt_of_eq (by decide : 2 < 3) rfl) (v := c2) rfl (g := (mkF m 19 #[.val (.ref a1), .val (.int (2 : Int32)), .val (.int (3 : Int32)), .val (.ref bn1), .val (.int (2 : Int32))] [(.int (2 : Int32)), (.ref a1), (.int (2 : Int32)), (.ref bn1)])) rfl rfl (hb hby d12_19) _ k) ?_
  show Gl p.tables e below PP (T3.setTop (mkF m 20 #[.val (.ref a1), .val (.int (2 : Int32)), .val (.int (3 : Int32)), .val (.ref bn1), .val (.int (2 : Int32))] [(.int c2), (.int (2 : Int32)), (.ref bn1)]))
  obtain ⟨_, _, ⟨T4, L4, k4, n4⟩, -, X4, ⟨Lc4, hQ4, l4, y4, z4⟩, st4⟩ := Jvm.LawKit.callS X3 hx (y := (⟨"java/lang/StringUTF16", "putChar", "([BII)V"⟩ : MethodName)) hown (mvT hZ (hw _ (List.mem_of_getElem? (i := 75) rfl))) (mvT hZ (hw _ (List.mem_of_getElem? (i := 76) rfl))) (mvT hZ (hw _ (List.mem_of_getElem? (i := 57) rfl))) (mvT hZ (hw _ (List.mem_of_getElem? (i := 77) rfl))) (by decide) (backOf (W := 0) (rmpu2 l Z a0 hw [] bn1 c2 ([(nar .byte ((c0 >>> ((0 : Int32) &&& 31)).toInt8.toInt32)), (nar .byte ((c0 >>> ((8 : Int32) &&& 31)).toInt8.toInt32)), (nar .byte ((c1 >>> ((0 : Int32) &&& 31)).toInt8.toInt32)), (nar .byte ((c1 >>> ((8 : Int32) &&& 31)).toInt8.toInt32)), (0 : Int32), (0 : Int32)]) T3.heap n0 Z3 V_bn1 g_bn1 (Nat.lt_of_lt_of_eq (by decide : 5 < 6) rfl) SAD SHI SLO O_) hZ (hw _ (List.mem_of_getElem? (i := 77) rfl)) (hw _ (List.mem_of_getElem? (i := 57) rfl)) (by decide) (by decide)) (g := (mkF m 20 #[.val (.ref a1), .val (.int (2 : Int32)), .val (.int (3 : Int32)), .val (.ref bn1), .val (.int (2 : Int32))] [(.int c2), (.int (2 : Int32)), (.ref bn1)])) rfl (by rw [hml]; rfl) (argsL := [(.ref bn1), (.int (2 : Int32)), (.int c2)]) (rest := []) (lenOf pd_2 rfl) rfl (by show 2 * 0 + _ ≤ _; exact Nat.le_of_eq rfl) (hb hby d12_20) (fun _ _ => ⟨rfl, rfl, (by decide : 1 + 0 ≤ _), (by decide : 6 + 0 ≤ _)⟩)
  dsimp only [Pt.U, Pt.locs, Pt.cells, Pt.slots] at X4 l4 y4 z4 st4 hQ4
  subst l4 y4 z4
  obtain ⟨rfl, N4q, K4, V4q⟩ := hQ4
  have N4 := Fr.app N3 N4q
  refine Gl.pre (fun _ k => st4 _ k) ?_
  have V_a1 := V_a1.keep K4 (ninS (own_ne_a1_bn1) nin0)
  have O_ := O_.keep K4 (allS g_bn1 all0)
  have Z4 : n0 ≤ T4.heap.size := Nat.le_trans Z3 K4.1
  have K4k := K3k.trans K4 (allS (Or.inr sz_bn1) all0)
  have V_bn1 : Bal Z T4.heap bn1 .byte [(nar .byte ((c0 >>> ((0 : Int32) &&& 31)).toInt8.toInt32)), (nar .byte ((c0 >>> ((8 : Int32) &&& 31)).toInt8.toInt32)), (nar .byte ((c1 >>> ((0 : Int32) &&& 31)).toInt8.toInt32)), (nar .byte ((c1 >>> ((8 : Int32) &&& 31)).toInt8.toInt32)), (nar .byte ((c2 >>> ((0 : Int32) &&& 31)).toInt8.toInt32)), (nar .byte ((c2 >>> ((8 : Int32) &&& 31)).toInt8.toInt32))] := V4q
  show Gl p.tables e below PP (T4.setTop (mkF m 23 #[.val (.ref a1), .val (.int (2 : Int32)), .val (.int (3 : Int32)), .val (.ref bn1), .val (.int (2 : Int32))] []))
  refine Gl.pre (fun _ k => XS.iinc X4.here hx rfl (hb hby d12_23) rfl (l' := #[.val (.ref a1), .val (.int (3 : Int32)), .val (.int (3 : Int32)), .val (.ref bn1), .val (.int (2 : Int32))]) rfl k) ?_
  show Gl p.tables e below PP (T4.setTop (mkF m 26 #[.val (.ref a1), .val (.int (3 : Int32)), .val (.int (3 : Int32)), .val (.ref bn1), .val (.int (2 : Int32))] []))
  refine Gl.pre (fun _ k => XS.iinc X4.here hx rfl (hb hby d12_26) rfl (l' := #[.val (.ref a1), .val (.int (3 : Int32)), .val (.int (3 : Int32)), .val (.ref bn1), .val (.int (3 : Int32))]) rfl k) ?_
  show Gl p.tables e below PP (T4.setTop (mkF m 29 #[.val (.ref a1), .val (.int (3 : Int32)), .val (.int (3 : Int32)), .val (.ref bn1), .val (.int (3 : Int32))] []))
  refine Gl.pre (fun _ k => XS.goto X4.here hx rfl (pc0 := 29) (pc' := 8) rfl (hb hby d12_29) (by decide) (by decide) k) ?_
  show Gl p.tables e below PP (T4.setTop (mkF m 8 #[.val (.ref a1), .val (.int (3 : Int32)), .val (.int (3 : Int32)), .val (.ref bn1), .val (.int (3 : Int32))] []))
  refine Gl.pre (fun _ k => XS.iload X4.here hx rfl (hb hby d12_8) rfl k) ?_
  show Gl p.tables e below PP (T4.setTop (mkF m 10 #[.val (.ref a1), .val (.int (3 : Int32)), .val (.int (3 : Int32)), .val (.ref bn1), .val (.int (3 : Int32))] [(.int (3 : Int32))]))
  refine Gl.pre (fun _ k => XS.iloadN X4.here hx rfl (hb hby d12_10) rfl k) ?_
  show Gl p.tables e below PP (T4.setTop (mkF m 11 #[.val (.ref a1), .val (.int (3 : Int32)), .val (.int (3 : Int32)), .val (.ref bn1), .val (.int (3 : Int32))] [(.int (3 : Int32)), (.int (3 : Int32))]))
  refine Gl.pre (fun _ k => XS.icmpYes X4.here hx rfl (pc0 := 11) (pc' := 32) rfl (hb hby d12_11) rfl (flt (show ¬ ((3 : Int32) < (3 : Int32)) from (by decide))).2.1 (by decide) (by decide) k) ?_
  show Gl p.tables e below PP (T4.setTop (mkF m 32 #[.val (.ref a1), .val (.int (3 : Int32)), .val (.int (3 : Int32)), .val (.ref bn1), .val (.int (3 : Int32))] []))
  refine Gl.pre (fun _ k => XS.aloadN X4.here hx rfl (hb hby d12_32) rfl rfl k) ?_
  show Gl p.tables e below PP (T4.setTop (mkF m 33 #[.val (.ref a1), .val (.int (3 : Int32)), .val (.int (3 : Int32)), .val (.ref bn1), .val (.int (3 : Int32))] [(.ref bn1)]))
  rw [hPP]
  refine own_finA (Q := (Qtb3 Z a1 c0 c1 c2 h0 n0)) X4 hx hlk Bd.returns rfl rfl (hb hby d12_33) ?_ (by decide) (by decide)
  show Qtb3 Z a1 c0 c1 c2 h0 n0 _ T4.heap _
  exact ⟨bn1, rfl, N4, sz_bn1, K4k, V_bn1⟩
theorem ef_gc3_0 (m : MethodId) (a1 : Addr) (y0 : Int32) (y1 : Int32) (y2 : Int32) (y3 : Int32) (y4 : Int32) (y5 : Int32) : entryFrame m #[(.ref a1), (.int (0 : Int32))] 2 = mkF m 0 #[.val (.ref a1), .val (.int (0 : Int32))] [] := by first | (simp [entryFrame, mkF, argsToLocals, Value.category]; done) | rfl
def Qgc3_0 (Z : State) (a1 : Addr) (y0 : Int32) (y1 : Int32) (y2 : Int32) (y3 : Int32) (y4 : Int32) (y5 : Int32) (h0 : Heap) (n0 : Nat) (v : Option Value) (h : Heap) (L : List Loc) : Prop := v = some (.int (nar .char ((((y0 &&& (255 : Int32)) <<< ((0 : Int32) &&& 31)) ||| ((y1 &&& (255 : Int32)) <<< ((8 : Int32) &&& 31))).toUInt32.toUInt16.toUInt32.toInt32))) ∧ Fr n0 L ∧ h = h0
set_option maxRecDepth 65536 in
set_option maxHeartbeats 40000000 in
theorem rmgc3_0 (l : Launch) (Z : State) (a0 : Array Value) (hw : ∀ d ∈ tables_1, d.before a0 Z = true) (ws : List Jvm.Cond) (a1 : Addr) (y0 : Int32) (y1 : Int32) (y2 : Int32) (y3 : Int32) (y4 : Int32) (y5 : Int32) (h0 : Heap) (n0 : Nat) (Z0 : n0 ≤ h0.size) (V_a1 : Bal Z h0 a1 .byte [y0, y1, y2, y3, y4, y5]) (SAD : Sta Z Z.heap "java/lang/StringUTF16" "$assertionsDisabled" "Z" (.int (1 : Int32))) (SHI : Sta Z Z.heap "java/lang/StringUTF16" "HI_BYTE_SHIFT" "I" (.int (0 : Int32))) (SLO : Sta Z Z.heap "java/lang/StringUTF16" "LO_BYTE_SHIFT" "I" (.int (8 : Int32))) (O_ : Old Z n0 h0) :
    MetFree l (⟨"java/lang/StringUTF16", "getChar", "([BI)C"⟩ : MethodName) (head1 (Jvm.Cond.code (⟨"java/lang/StringUTF16", "getChar", "([BI)C"⟩ : MethodName) jdk_52_method_5_code 2 (some .char) :: ws) ({ frames := 0, cells := 0, slots := 0, locals := 0 } : Room)) (fun a U => a = #[(.ref a1), (.int (0 : Int32))] ∧ Z.Warmed39 U.vm ∧ U.heap = h0) (fun _ _ _ _ _ => True) (fun _ U o U' => ∃ v L, o = .returned v ∧ Qgc3_0 Z a1 y0 y1 y2 y3 y4 y5 h0 n0 v U'.heap L ∧ FrameEnd U o U' L ({ frames := 0, cells := 0, slots := 0, locals := 0 } : Room).cells ({ frames := 0, cells := 0, slots := 0, locals := 0 } : Room).slots) := by
  refine MetFree.of_bodySF (plainFor_of_name pn_16) hisR ?_
  intro p e s m args below meth c s₁ Bd hml0 hP hK
  obtain ⟨rfl, hZ, hh⟩ := hP
  have hx := Bd.exec
  have hby := Bd.bytes
  have hlk : meth.locks = false := BodyLoose.notSynchronized Bd
  have hml : c.maxLocals = 2 := hml0
  have hown : s.vm.findClass "java/lang/StringUTF16" = some m.cls := findClass_of_methodNamed Bd.named
  have hnm := (name_of_methodNamed Bd.named Bd.method).1
  have X0 : Stand p l e ({ frames := 0, cells := 0, slots := 0, locals := 0 } : Room) s m #[(.ref a1), (.int (0 : Int32))] below meth c s₁ [] 0 0 := Stand.of_body Bd
  have e0 : s₁.heap = h0 := by rw [← hh, Bd.state]; rfl
  have N0 := Fr.nil n0
  show Gl p.tables e below (fun (o : Outcome) (U' : State) => ∃ v L, o = .returned v ∧ Qgc3_0 Z a1 y0 y1 y2 y3 y4 y5 h0 n0 v U'.heap L ∧ FrameEnd s o U' L ({ frames := 0, cells := 0, slots := 0, locals := 0 } : Room).cells ({ frames := 0, cells := 0, slots := 0, locals := 0 } : Room).slots) _
  refine Gl.pre (fun t k => castTop (ef_gc3_0 m a1 y0 y1 y2 y3 y4 y5) k) ?_
  obtain ⟨PP, hPP⟩ : ∃ P : Outcome → State → Prop, P = (fun (o : Outcome) (U' : State) => ∃ v L, o = .returned v ∧ Qgc3_0 Z a1 y0 y1 y2 y3 y4 y5 h0 n0 v U'.heap L ∧ FrameEnd s o U' L ({ frames := 0, cells := 0, slots := 0, locals := 0 } : Room).cells ({ frames := 0, cells := 0, slots := 0, locals := 0 } : Room).slots) := ⟨_, rfl⟩
  rw [← hPP]
  show Gl p.tables e below PP (s₁.setTop (mkF m 0 #[.val (.ref a1), .val (.int (0 : Int32))] []))
  obtain ⟨T1, X1, e1, st1⟩ := getS2 X0 hx hZ hown (host := "") (Or.inl (hw _ (List.mem_of_getElem? (i := 78) rfl))) Via.refl e0 (SAD.ext O_.2) (g := (mkF m 0 #[.val (.ref a1), .val (.int (0 : Int32))] [])) rfl (hb hby d16_0)
  refine Gl.pre (fun _ k => st1 _ k) ?_
  show Gl p.tables e below PP (T1.setTop (mkF m 3 #[.val (.ref a1), .val (.int (0 : Int32))] [(.int (1 : Int32))]))
  refine Gl.pre (fun _ k => XS.ifYes X1.here hx rfl (pc0 := 3) (pc' := 28) rfl (hb hby d16_3) rfl ((if0 _ _).trans (feq (show ¬ ((1 : Int32) = (0 : Int32)) from (by decide))).2) (by decide) (by decide) k) ?_
  show Gl p.tables e below PP (T1.setTop (mkF m 28 #[.val (.ref a1), .val (.int (0 : Int32))] []))
  refine Gl.pre (fun _ k => XS.iloadN X1.here hx rfl (hb hby d16_28) rfl k) ?_
  show Gl p.tables e below PP (T1.setTop (mkF m 29 #[.val (.ref a1), .val (.int (0 : Int32))] [(.int (0 : Int32))]))
  refine Gl.pre (fun _ k => XS.iconst X1.here hx rfl (hb hby d16_29) k) ?_
  show Gl p.tables e below PP (T1.setTop (mkF m 30 #[.val (.ref a1), .val (.int (0 : Int32))] [(.int (1 : Int32)), (.int (0 : Int32))]))
  refine Gl.pre (fun _ k => XS.ishl X1.here hx rfl (hb hby d16_30) rfl k) ?_
  show Gl p.tables e below PP (T1.setTop (mkF m 31 #[.val (.ref a1), .val (.int (0 : Int32))] [(.int ((0 : Int32) <<< ((1 : Int32) &&& 31)))]))
  rw [show ((0 : Int32) <<< ((1 : Int32) &&& 31)) = (0 : Int32) by decide]
  show Gl p.tables e below PP (T1.setTop (mkF m 31 #[.val (.ref a1), .val (.int (0 : Int32))] [(.int (0 : Int32))]))
  refine Gl.pre (fun _ k => XS.istoreN X1.here hx rfl (hb hby d16_31) rfl (l' := #[.val (.ref a1), .val (.int (0 : Int32))]) rfl k) ?_
  show Gl p.tables e below PP (T1.setTop (mkF m 32 #[.val (.ref a1), .val (.int (0 : Int32))] []))
  refine Gl.pre (fun _ k => XS.aloadN X1.here hx rfl (hb hby d16_32) rfl rfl k) ?_
  show Gl p.tables e below PP (T1.setTop (mkF m 33 #[.val (.ref a1), .val (.int (0 : Int32))] [(.ref a1)]))
  refine Gl.pre (fun _ k => XS.iloadN X1.here hx rfl (hb hby d16_33) rfl k) ?_
  show Gl p.tables e below PP (T1.setTop (mkF m 34 #[.val (.ref a1), .val (.int (0 : Int32))] [(.int (0 : Int32)), (.ref a1)]))
  refine Gl.pre (fun _ k => XS.iinc X1.here hx rfl (hb hby d16_34) rfl (l' := #[.val (.ref a1), .val (.int (1 : Int32))]) rfl k) ?_
  show Gl p.tables e below PP (T1.setTop (mkF m 37 #[.val (.ref a1), .val (.int (1 : Int32))] [(.int (0 : Int32)), (.ref a1)]))
  refine Gl.pre (fun _ k => own_ldB X1 hx hZ e1 V_a1 (j := (0 : Int32)) (i := 0) (by decide) (by decide) (Nat.lt_of_lt_of_eq (by decide : 0 < 6) rfl) (v := y0) rfl (g := (mkF m 37 #[.val (.ref a1), .val (.int (1 : Int32))] [(.int (0 : Int32)), (.ref a1)])) rfl rfl (hb hby d16_37) _ k) ?_
  show Gl p.tables e below PP (T1.setTop (mkF m 38 #[.val (.ref a1), .val (.int (1 : Int32))] [(.int y0)]))
  refine Gl.pre (fun _ k => XS.sipush X1.here hx rfl (hb hby d16_38) k) ?_
  show Gl p.tables e below PP (T1.setTop (mkF m 41 #[.val (.ref a1), .val (.int (1 : Int32))] [(.int (255 : Int32)), (.int y0)]))
  refine Gl.pre (fun _ k => XS.iand X1.here hx rfl (hb hby d16_41) rfl k) ?_
  show Gl p.tables e below PP (T1.setTop (mkF m 42 #[.val (.ref a1), .val (.int (1 : Int32))] [(.int (y0 &&& (255 : Int32)))]))
  obtain ⟨T2, X2, e2, st2⟩ := getS2 X1 hx hZ hown (host := "") (Or.inl (hw _ (List.mem_of_getElem? (i := 79) rfl))) Via.refl e1 (SHI.ext O_.2) (g := (mkF m 42 #[.val (.ref a1), .val (.int (1 : Int32))] [(.int (y0 &&& (255 : Int32)))])) rfl (hb hby d16_42)
  refine Gl.pre (fun _ k => st2 _ k) ?_
  show Gl p.tables e below PP (T2.setTop (mkF m 45 #[.val (.ref a1), .val (.int (1 : Int32))] [(.int (0 : Int32)), (.int (y0 &&& (255 : Int32)))]))
  refine Gl.pre (fun _ k => XS.ishl X2.here hx rfl (hb hby d16_45) rfl k) ?_
  show Gl p.tables e below PP (T2.setTop (mkF m 46 #[.val (.ref a1), .val (.int (1 : Int32))] [(.int ((y0 &&& (255 : Int32)) <<< ((0 : Int32) &&& 31)))]))
  refine Gl.pre (fun _ k => XS.aloadN X2.here hx rfl (hb hby d16_46) rfl rfl k) ?_
  show Gl p.tables e below PP (T2.setTop (mkF m 47 #[.val (.ref a1), .val (.int (1 : Int32))] [(.ref a1), (.int ((y0 &&& (255 : Int32)) <<< ((0 : Int32) &&& 31)))]))
  refine Gl.pre (fun _ k => XS.iloadN X2.here hx rfl (hb hby d16_47) rfl k) ?_
  show Gl p.tables e below PP (T2.setTop (mkF m 48 #[.val (.ref a1), .val (.int (1 : Int32))] [(.int (1 : Int32)), (.ref a1), (.int ((y0 &&& (255 : Int32)) <<< ((0 : Int32) &&& 31)))]))
  refine Gl.pre (fun _ k => own_ldB X2 hx hZ e2 V_a1 (j := (1 : Int32)) (i := 1) (by decide) (by decide) (Nat.lt_of_lt_of_eq (by decide : 1 < 6) rfl) (v := y1) rfl (g := (mkF m 48 #[.val (.ref a1), .val (.int (1 : Int32))] [(.int (1 : Int32)), (.ref a1), (.int ((y0 &&& (255 : Int32)) <<< ((0 : Int32) &&& 31)))])) rfl rfl (hb hby d16_48) _ k) ?_
  show Gl p.tables e below PP (T2.setTop (mkF m 49 #[.val (.ref a1), .val (.int (1 : Int32))] [(.int y1), (.int ((y0 &&& (255 : Int32)) <<< ((0 : Int32) &&& 31)))]))
  refine Gl.pre (fun _ k => XS.sipush X2.here hx rfl (hb hby d16_49) k) ?_
  show Gl p.tables e below PP (T2.setTop (mkF m 52 #[.val (.ref a1), .val (.int (1 : Int32))] [(.int (255 : Int32)), (.int y1), (.int ((y0 &&& (255 : Int32)) <<< ((0 : Int32) &&& 31)))]))
  refine Gl.pre (fun _ k => XS.iand X2.here hx rfl (hb hby d16_52) rfl k) ?_
  show Gl p.tables e below PP (T2.setTop (mkF m 53 #[.val (.ref a1), .val (.int (1 : Int32))] [(.int (y1 &&& (255 : Int32))), (.int ((y0 &&& (255 : Int32)) <<< ((0 : Int32) &&& 31)))]))
  obtain ⟨T3, X3, e3, st3⟩ := getS2 X2 hx hZ hown (host := "") (Or.inl (hw _ (List.mem_of_getElem? (i := 80) rfl))) Via.refl e2 (SLO.ext O_.2) (g := (mkF m 53 #[.val (.ref a1), .val (.int (1 : Int32))] [(.int (y1 &&& (255 : Int32))), (.int ((y0 &&& (255 : Int32)) <<< ((0 : Int32) &&& 31)))])) rfl (hb hby d16_53)
  refine Gl.pre (fun _ k => st3 _ k) ?_
  show Gl p.tables e below PP (T3.setTop (mkF m 56 #[.val (.ref a1), .val (.int (1 : Int32))] [(.int (8 : Int32)), (.int (y1 &&& (255 : Int32))), (.int ((y0 &&& (255 : Int32)) <<< ((0 : Int32) &&& 31)))]))
  refine Gl.pre (fun _ k => XS.ishl X3.here hx rfl (hb hby d16_56) rfl k) ?_
  show Gl p.tables e below PP (T3.setTop (mkF m 57 #[.val (.ref a1), .val (.int (1 : Int32))] [(.int ((y1 &&& (255 : Int32)) <<< ((8 : Int32) &&& 31))), (.int ((y0 &&& (255 : Int32)) <<< ((0 : Int32) &&& 31)))]))
  refine Gl.pre (fun _ k => XS.ior X3.here hx rfl (hb hby d16_57) rfl k) ?_
  show Gl p.tables e below PP (T3.setTop (mkF m 58 #[.val (.ref a1), .val (.int (1 : Int32))] [(.int (((y0 &&& (255 : Int32)) <<< ((0 : Int32) &&& 31)) ||| ((y1 &&& (255 : Int32)) <<< ((8 : Int32) &&& 31))))]))
  refine Gl.pre (fun _ k => XS.i2c X3.here hx rfl (hb hby d16_58) rfl k) ?_
  show Gl p.tables e below PP (T3.setTop (mkF m 59 #[.val (.ref a1), .val (.int (1 : Int32))] [(.int ((((y0 &&& (255 : Int32)) <<< ((0 : Int32) &&& 31)) ||| ((y1 &&& (255 : Int32)) <<< ((8 : Int32) &&& 31))).toUInt32.toUInt16.toUInt32.toInt32))]))
  rw [hPP]
  refine own_finN (Q := (Qgc3_0 Z a1 y0 y1 y2 y3 y4 y5 h0 n0)) X3 hx hlk Bd.returns (t := .char) (by simp) rfl (hb hby d16_59) ?_ (by decide) (by decide)
  show Qgc3_0 Z a1 y0 y1 y2 y3 y4 y5 h0 n0 _ T3.heap _
  rw [e3]
  exact ⟨rfl, N0, rfl⟩
theorem ef_gc3_1 (m : MethodId) (a1 : Addr) (y0 : Int32) (y1 : Int32) (y2 : Int32) (y3 : Int32) (y4 : Int32) (y5 : Int32) : entryFrame m #[(.ref a1), (.int (1 : Int32))] 2 = mkF m 0 #[.val (.ref a1), .val (.int (1 : Int32))] [] := by first | (simp [entryFrame, mkF, argsToLocals, Value.category]; done) | rfl
def Qgc3_1 (Z : State) (a1 : Addr) (y0 : Int32) (y1 : Int32) (y2 : Int32) (y3 : Int32) (y4 : Int32) (y5 : Int32) (h0 : Heap) (n0 : Nat) (v : Option Value) (h : Heap) (L : List Loc) : Prop := v = some (.int (nar .char ((((y2 &&& (255 : Int32)) <<< ((0 : Int32) &&& 31)) ||| ((y3 &&& (255 : Int32)) <<< ((8 : Int32) &&& 31))).toUInt32.toUInt16.toUInt32.toInt32))) ∧ Fr n0 L ∧ h = h0
set_option maxRecDepth 65536 in
set_option maxHeartbeats 40000000 in
theorem rmgc3_1 (l : Launch) (Z : State) (a0 : Array Value) (hw : ∀ d ∈ tables_1, d.before a0 Z = true) (ws : List Jvm.Cond) (a1 : Addr) (y0 : Int32) (y1 : Int32) (y2 : Int32) (y3 : Int32) (y4 : Int32) (y5 : Int32) (h0 : Heap) (n0 : Nat) (Z0 : n0 ≤ h0.size) (V_a1 : Bal Z h0 a1 .byte [y0, y1, y2, y3, y4, y5]) (SAD : Sta Z Z.heap "java/lang/StringUTF16" "$assertionsDisabled" "Z" (.int (1 : Int32))) (SHI : Sta Z Z.heap "java/lang/StringUTF16" "HI_BYTE_SHIFT" "I" (.int (0 : Int32))) (SLO : Sta Z Z.heap "java/lang/StringUTF16" "LO_BYTE_SHIFT" "I" (.int (8 : Int32))) (O_ : Old Z n0 h0) :
    MetFree l (⟨"java/lang/StringUTF16", "getChar", "([BI)C"⟩ : MethodName) (head1 (Jvm.Cond.code (⟨"java/lang/StringUTF16", "getChar", "([BI)C"⟩ : MethodName) jdk_52_method_5_code 2 (some .char) :: ws) ({ frames := 0, cells := 0, slots := 0, locals := 0 } : Room)) (fun a U => a = #[(.ref a1), (.int (1 : Int32))] ∧ Z.Warmed39 U.vm ∧ U.heap = h0) (fun _ _ _ _ _ => True) (fun _ U o U' => ∃ v L, o = .returned v ∧ Qgc3_1 Z a1 y0 y1 y2 y3 y4 y5 h0 n0 v U'.heap L ∧ FrameEnd U o U' L ({ frames := 0, cells := 0, slots := 0, locals := 0 } : Room).cells ({ frames := 0, cells := 0, slots := 0, locals := 0 } : Room).slots) := by
  refine MetFree.of_bodySF (plainFor_of_name pn_16) hisR ?_
  intro p e s m args below meth c s₁ Bd hml0 hP hK
  obtain ⟨rfl, hZ, hh⟩ := hP
  have hx := Bd.exec
  have hby := Bd.bytes
  have hlk : meth.locks = false := BodyLoose.notSynchronized Bd
  have hml : c.maxLocals = 2 := hml0
  have hown : s.vm.findClass "java/lang/StringUTF16" = some m.cls := findClass_of_methodNamed Bd.named
  have hnm := (name_of_methodNamed Bd.named Bd.method).1
  have X0 : Stand p l e ({ frames := 0, cells := 0, slots := 0, locals := 0 } : Room) s m #[(.ref a1), (.int (1 : Int32))] below meth c s₁ [] 0 0 := Stand.of_body Bd
  have e0 : s₁.heap = h0 := by rw [← hh, Bd.state]; rfl
  have N0 := Fr.nil n0
  show Gl p.tables e below (fun (o : Outcome) (U' : State) => ∃ v L, o = .returned v ∧ Qgc3_1 Z a1 y0 y1 y2 y3 y4 y5 h0 n0 v U'.heap L ∧ FrameEnd s o U' L ({ frames := 0, cells := 0, slots := 0, locals := 0 } : Room).cells ({ frames := 0, cells := 0, slots := 0, locals := 0 } : Room).slots) _
  refine Gl.pre (fun t k => castTop (ef_gc3_1 m a1 y0 y1 y2 y3 y4 y5) k) ?_
  obtain ⟨PP, hPP⟩ : ∃ P : Outcome → State → Prop, P = (fun (o : Outcome) (U' : State) => ∃ v L, o = .returned v ∧ Qgc3_1 Z a1 y0 y1 y2 y3 y4 y5 h0 n0 v U'.heap L ∧ FrameEnd s o U' L ({ frames := 0, cells := 0, slots := 0, locals := 0 } : Room).cells ({ frames := 0, cells := 0, slots := 0, locals := 0 } : Room).slots) := ⟨_, rfl⟩
  rw [← hPP]
  show Gl p.tables e below PP (s₁.setTop (mkF m 0 #[.val (.ref a1), .val (.int (1 : Int32))] []))
  obtain ⟨T1, X1, e1, st1⟩ := getS2 X0 hx hZ hown (host := "") (Or.inl (hw _ (List.mem_of_getElem? (i := 78) rfl))) Via.refl e0 (SAD.ext O_.2) (g := (mkF m 0 #[.val (.ref a1), .val (.int (1 : Int32))] [])) rfl (hb hby d16_0)
  refine Gl.pre (fun _ k => st1 _ k) ?_
  show Gl p.tables e below PP (T1.setTop (mkF m 3 #[.val (.ref a1), .val (.int (1 : Int32))] [(.int (1 : Int32))]))
  refine Gl.pre (fun _ k => XS.ifYes X1.here hx rfl (pc0 := 3) (pc' := 28) rfl (hb hby d16_3) rfl ((if0 _ _).trans (feq (show ¬ ((1 : Int32) = (0 : Int32)) from (by decide))).2) (by decide) (by decide) k) ?_
  show Gl p.tables e below PP (T1.setTop (mkF m 28 #[.val (.ref a1), .val (.int (1 : Int32))] []))
  refine Gl.pre (fun _ k => XS.iloadN X1.here hx rfl (hb hby d16_28) rfl k) ?_
  show Gl p.tables e below PP (T1.setTop (mkF m 29 #[.val (.ref a1), .val (.int (1 : Int32))] [(.int (1 : Int32))]))
  refine Gl.pre (fun _ k => XS.iconst X1.here hx rfl (hb hby d16_29) k) ?_
  show Gl p.tables e below PP (T1.setTop (mkF m 30 #[.val (.ref a1), .val (.int (1 : Int32))] [(.int (1 : Int32)), (.int (1 : Int32))]))
  refine Gl.pre (fun _ k => XS.ishl X1.here hx rfl (hb hby d16_30) rfl k) ?_
  show Gl p.tables e below PP (T1.setTop (mkF m 31 #[.val (.ref a1), .val (.int (1 : Int32))] [(.int ((1 : Int32) <<< ((1 : Int32) &&& 31)))]))
  rw [show ((1 : Int32) <<< ((1 : Int32) &&& 31)) = (2 : Int32) by decide]
  show Gl p.tables e below PP (T1.setTop (mkF m 31 #[.val (.ref a1), .val (.int (1 : Int32))] [(.int (2 : Int32))]))
  refine Gl.pre (fun _ k => XS.istoreN X1.here hx rfl (hb hby d16_31) rfl (l' := #[.val (.ref a1), .val (.int (2 : Int32))]) rfl k) ?_
  show Gl p.tables e below PP (T1.setTop (mkF m 32 #[.val (.ref a1), .val (.int (2 : Int32))] []))
  refine Gl.pre (fun _ k => XS.aloadN X1.here hx rfl (hb hby d16_32) rfl rfl k) ?_
  show Gl p.tables e below PP (T1.setTop (mkF m 33 #[.val (.ref a1), .val (.int (2 : Int32))] [(.ref a1)]))
  refine Gl.pre (fun _ k => XS.iloadN X1.here hx rfl (hb hby d16_33) rfl k) ?_
  show Gl p.tables e below PP (T1.setTop (mkF m 34 #[.val (.ref a1), .val (.int (2 : Int32))] [(.int (2 : Int32)), (.ref a1)]))
  refine Gl.pre (fun _ k => XS.iinc X1.here hx rfl (hb hby d16_34) rfl (l' := #[.val (.ref a1), .val (.int (3 : Int32))]) rfl k) ?_
  show Gl p.tables e below PP (T1.setTop (mkF m 37 #[.val (.ref a1), .val (.int (3 : Int32))] [(.int (2 : Int32)), (.ref a1)]))
  refine Gl.pre (fun _ k => own_ldB X1 hx hZ e1 V_a1 (j := (2 : Int32)) (i := 2) (by decide) (by decide) (Nat.lt_of_lt_of_eq (by decide : 2 < 6) rfl) (v := y2) rfl (g := (mkF m 37 #[.val (.ref a1), .val (.int (3 : Int32))] [(.int (2 : Int32)), (.ref a1)])) rfl rfl (hb hby d16_37) _ k) ?_
  show Gl p.tables e below PP (T1.setTop (mkF m 38 #[.val (.ref a1), .val (.int (3 : Int32))] [(.int y2)]))
  refine Gl.pre (fun _ k => XS.sipush X1.here hx rfl (hb hby d16_38) k) ?_
  show Gl p.tables e below PP (T1.setTop (mkF m 41 #[.val (.ref a1), .val (.int (3 : Int32))] [(.int (255 : Int32)), (.int y2)]))
  refine Gl.pre (fun _ k => XS.iand X1.here hx rfl (hb hby d16_41) rfl k) ?_
  show Gl p.tables e below PP (T1.setTop (mkF m 42 #[.val (.ref a1), .val (.int (3 : Int32))] [(.int (y2 &&& (255 : Int32)))]))
  obtain ⟨T2, X2, e2, st2⟩ := getS2 X1 hx hZ hown (host := "") (Or.inl (hw _ (List.mem_of_getElem? (i := 79) rfl))) Via.refl e1 (SHI.ext O_.2) (g := (mkF m 42 #[.val (.ref a1), .val (.int (3 : Int32))] [(.int (y2 &&& (255 : Int32)))])) rfl (hb hby d16_42)
  refine Gl.pre (fun _ k => st2 _ k) ?_
  show Gl p.tables e below PP (T2.setTop (mkF m 45 #[.val (.ref a1), .val (.int (3 : Int32))] [(.int (0 : Int32)), (.int (y2 &&& (255 : Int32)))]))
  refine Gl.pre (fun _ k => XS.ishl X2.here hx rfl (hb hby d16_45) rfl k) ?_
  show Gl p.tables e below PP (T2.setTop (mkF m 46 #[.val (.ref a1), .val (.int (3 : Int32))] [(.int ((y2 &&& (255 : Int32)) <<< ((0 : Int32) &&& 31)))]))
  refine Gl.pre (fun _ k => XS.aloadN X2.here hx rfl (hb hby d16_46) rfl rfl k) ?_
  show Gl p.tables e below PP (T2.setTop (mkF m 47 #[.val (.ref a1), .val (.int (3 : Int32))] [(.ref a1), (.int ((y2 &&& (255 : Int32)) <<< ((0 : Int32) &&& 31)))]))
  refine Gl.pre (fun _ k => XS.iloadN X2.here hx rfl (hb hby d16_47) rfl k) ?_
  show Gl p.tables e below PP (T2.setTop (mkF m 48 #[.val (.ref a1), .val (.int (3 : Int32))] [(.int (3 : Int32)), (.ref a1), (.int ((y2 &&& (255 : Int32)) <<< ((0 : Int32) &&& 31)))]))
  refine Gl.pre (fun _ k => own_ldB X2 hx hZ e2 V_a1 (j := (3 : Int32)) (i := 3) (by decide) (by decide) (Nat.lt_of_lt_of_eq (by decide : 3 < 6) rfl) (v := y3) rfl (g := (mkF m 48 #[.val (.ref a1), .val (.int (3 : Int32))] [(.int (3 : Int32)), (.ref a1), (.int ((y2 &&& (255 : Int32)) <<< ((0 : Int32) &&& 31)))])) rfl rfl (hb hby d16_48) _ k) ?_
  show Gl p.tables e below PP (T2.setTop (mkF m 49 #[.val (.ref a1), .val (.int (3 : Int32))] [(.int y3), (.int ((y2 &&& (255 : Int32)) <<< ((0 : Int32) &&& 31)))]))
  refine Gl.pre (fun _ k => XS.sipush X2.here hx rfl (hb hby d16_49) k) ?_
  show Gl p.tables e below PP (T2.setTop (mkF m 52 #[.val (.ref a1), .val (.int (3 : Int32))] [(.int (255 : Int32)), (.int y3), (.int ((y2 &&& (255 : Int32)) <<< ((0 : Int32) &&& 31)))]))
  refine Gl.pre (fun _ k => XS.iand X2.here hx rfl (hb hby d16_52) rfl k) ?_
  show Gl p.tables e below PP (T2.setTop (mkF m 53 #[.val (.ref a1), .val (.int (3 : Int32))] [(.int (y3 &&& (255 : Int32))), (.int ((y2 &&& (255 : Int32)) <<< ((0 : Int32) &&& 31)))]))
  obtain ⟨T3, X3, e3, st3⟩ := getS2 X2 hx hZ hown (host := "") (Or.inl (hw _ (List.mem_of_getElem? (i := 80) rfl))) Via.refl e2 (SLO.ext O_.2) (g := (mkF m 53 #[.val (.ref a1), .val (.int (3 : Int32))] [(.int (y3 &&& (255 : Int32))), (.int ((y2 &&& (255 : Int32)) <<< ((0 : Int32) &&& 31)))])) rfl (hb hby d16_53)
  refine Gl.pre (fun _ k => st3 _ k) ?_
  show Gl p.tables e below PP (T3.setTop (mkF m 56 #[.val (.ref a1), .val (.int (3 : Int32))] [(.int (8 : Int32)), (.int (y3 &&& (255 : Int32))), (.int ((y2 &&& (255 : Int32)) <<< ((0 : Int32) &&& 31)))]))
  refine Gl.pre (fun _ k => XS.ishl X3.here hx rfl (hb hby d16_56) rfl k) ?_
  show Gl p.tables e below PP (T3.setTop (mkF m 57 #[.val (.ref a1), .val (.int (3 : Int32))] [(.int ((y3 &&& (255 : Int32)) <<< ((8 : Int32) &&& 31))), (.int ((y2 &&& (255 : Int32)) <<< ((0 : Int32) &&& 31)))]))
  refine Gl.pre (fun _ k => XS.ior X3.here hx rfl (hb hby d16_57) rfl k) ?_
  show Gl p.tables e below PP (T3.setTop (mkF m 58 #[.val (.ref a1), .val (.int (3 : Int32))] [(.int (((y2 &&& (255 : Int32)) <<< ((0 : Int32) &&& 31)) ||| ((y3 &&& (255 : Int32)) <<< ((8 : Int32) &&& 31))))]))
  refine Gl.pre (fun _ k => XS.i2c X3.here hx rfl (hb hby d16_58) rfl k) ?_
  show Gl p.tables e below PP (T3.setTop (mkF m 59 #[.val (.ref a1), .val (.int (3 : Int32))] [(.int ((((y2 &&& (255 : Int32)) <<< ((0 : Int32) &&& 31)) ||| ((y3 &&& (255 : Int32)) <<< ((8 : Int32) &&& 31))).toUInt32.toUInt16.toUInt32.toInt32))]))
  rw [hPP]
  refine own_finN (Q := (Qgc3_1 Z a1 y0 y1 y2 y3 y4 y5 h0 n0)) X3 hx hlk Bd.returns (t := .char) (by simp) rfl (hb hby d16_59) ?_ (by decide) (by decide)
  show Qgc3_1 Z a1 y0 y1 y2 y3 y4 y5 h0 n0 _ T3.heap _
  rw [e3]
  exact ⟨rfl, N0, rfl⟩
theorem ef_gc3_2 (m : MethodId) (a1 : Addr) (y0 : Int32) (y1 : Int32) (y2 : Int32) (y3 : Int32) (y4 : Int32) (y5 : Int32) : entryFrame m #[(.ref a1), (.int (2 : Int32))] 2 = mkF m 0 #[.val (.ref a1), .val (.int (2 : Int32))] [] := by first | (simp [entryFrame, mkF, argsToLocals, Value.category]; done) | rfl
def Qgc3_2 (Z : State) (a1 : Addr) (y0 : Int32) (y1 : Int32) (y2 : Int32) (y3 : Int32) (y4 : Int32) (y5 : Int32) (h0 : Heap) (n0 : Nat) (v : Option Value) (h : Heap) (L : List Loc) : Prop := v = some (.int (nar .char ((((y4 &&& (255 : Int32)) <<< ((0 : Int32) &&& 31)) ||| ((y5 &&& (255 : Int32)) <<< ((8 : Int32) &&& 31))).toUInt32.toUInt16.toUInt32.toInt32))) ∧ Fr n0 L ∧ h = h0
set_option maxRecDepth 65536 in
set_option maxHeartbeats 40000000 in
theorem rmgc3_2 (l : Launch) (Z : State) (a0 : Array Value) (hw : ∀ d ∈ tables_1, d.before a0 Z = true) (ws : List Jvm.Cond) (a1 : Addr) (y0 : Int32) (y1 : Int32) (y2 : Int32) (y3 : Int32) (y4 : Int32) (y5 : Int32) (h0 : Heap) (n0 : Nat) (Z0 : n0 ≤ h0.size) (V_a1 : Bal Z h0 a1 .byte [y0, y1, y2, y3, y4, y5]) (SAD : Sta Z Z.heap "java/lang/StringUTF16" "$assertionsDisabled" "Z" (.int (1 : Int32))) (SHI : Sta Z Z.heap "java/lang/StringUTF16" "HI_BYTE_SHIFT" "I" (.int (0 : Int32))) (SLO : Sta Z Z.heap "java/lang/StringUTF16" "LO_BYTE_SHIFT" "I" (.int (8 : Int32))) (O_ : Old Z n0 h0) :
    MetFree l (⟨"java/lang/StringUTF16", "getChar", "([BI)C"⟩ : MethodName) (head1 (Jvm.Cond.code (⟨"java/lang/StringUTF16", "getChar", "([BI)C"⟩ : MethodName) jdk_52_method_5_code 2 (some .char) :: ws) ({ frames := 0, cells := 0, slots := 0, locals := 0 } : Room)) (fun a U => a = #[(.ref a1), (.int (2 : Int32))] ∧ Z.Warmed39 U.vm ∧ U.heap = h0) (fun _ _ _ _ _ => True) (fun _ U o U' => ∃ v L, o = .returned v ∧ Qgc3_2 Z a1 y0 y1 y2 y3 y4 y5 h0 n0 v U'.heap L ∧ FrameEnd U o U' L ({ frames := 0, cells := 0, slots := 0, locals := 0 } : Room).cells ({ frames := 0, cells := 0, slots := 0, locals := 0 } : Room).slots) := by
  refine MetFree.of_bodySF (plainFor_of_name pn_16) hisR ?_
  intro p e s m args below meth c s₁ Bd hml0 hP hK
  obtain ⟨rfl, hZ, hh⟩ := hP
  have hx := Bd.exec
  have hby := Bd.bytes
  have hlk : meth.locks = false := BodyLoose.notSynchronized Bd
  have hml : c.maxLocals = 2 := hml0
  have hown : s.vm.findClass "java/lang/StringUTF16" = some m.cls := findClass_of_methodNamed Bd.named
  have hnm := (name_of_methodNamed Bd.named Bd.method).1
  have X0 : Stand p l e ({ frames := 0, cells := 0, slots := 0, locals := 0 } : Room) s m #[(.ref a1), (.int (2 : Int32))] below meth c s₁ [] 0 0 := Stand.of_body Bd
  have e0 : s₁.heap = h0 := by rw [← hh, Bd.state]; rfl
  have N0 := Fr.nil n0
  show Gl p.tables e below (fun (o : Outcome) (U' : State) => ∃ v L, o = .returned v ∧ Qgc3_2 Z a1 y0 y1 y2 y3 y4 y5 h0 n0 v U'.heap L ∧ FrameEnd s o U' L ({ frames := 0, cells := 0, slots := 0, locals := 0 } : Room).cells ({ frames := 0, cells := 0, slots := 0, locals := 0 } : Room).slots) _
  refine Gl.pre (fun t k => castTop (ef_gc3_2 m a1 y0 y1 y2 y3 y4 y5) k) ?_
  obtain ⟨PP, hPP⟩ : ∃ P : Outcome → State → Prop, P = (fun (o : Outcome) (U' : State) => ∃ v L, o = .returned v ∧ Qgc3_2 Z a1 y0 y1 y2 y3 y4 y5 h0 n0 v U'.heap L ∧ FrameEnd s o U' L ({ frames := 0, cells := 0, slots := 0, locals := 0 } : Room).cells ({ frames := 0, cells := 0, slots := 0, locals := 0 } : Room).slots) := ⟨_, rfl⟩
  rw [← hPP]
  show Gl p.tables e below PP (s₁.setTop (mkF m 0 #[.val (.ref a1), .val (.int (2 : Int32))] []))
  obtain ⟨T1, X1, e1, st1⟩ := getS2 X0 hx hZ hown (host := "") (Or.inl (hw _ (List.mem_of_getElem? (i := 78) rfl))) Via.refl e0 (SAD.ext O_.2) (g := (mkF m 0 #[.val (.ref a1), .val (.int (2 : Int32))] [])) rfl (hb hby d16_0)
  refine Gl.pre (fun _ k => st1 _ k) ?_
  show Gl p.tables e below PP (T1.setTop (mkF m 3 #[.val (.ref a1), .val (.int (2 : Int32))] [(.int (1 : Int32))]))
  refine Gl.pre (fun _ k => XS.ifYes X1.here hx rfl (pc0 := 3) (pc' := 28) rfl (hb hby d16_3) rfl ((if0 _ _).trans (feq (show ¬ ((1 : Int32) = (0 : Int32)) from (by decide))).2) (by decide) (by decide) k) ?_
  show Gl p.tables e below PP (T1.setTop (mkF m 28 #[.val (.ref a1), .val (.int (2 : Int32))] []))
  refine Gl.pre (fun _ k => XS.iloadN X1.here hx rfl (hb hby d16_28) rfl k) ?_
  show Gl p.tables e below PP (T1.setTop (mkF m 29 #[.val (.ref a1), .val (.int (2 : Int32))] [(.int (2 : Int32))]))
  refine Gl.pre (fun _ k => XS.iconst X1.here hx rfl (hb hby d16_29) k) ?_
  show Gl p.tables e below PP (T1.setTop (mkF m 30 #[.val (.ref a1), .val (.int (2 : Int32))] [(.int (1 : Int32)), (.int (2 : Int32))]))
  refine Gl.pre (fun _ k => XS.ishl X1.here hx rfl (hb hby d16_30) rfl k) ?_
  show Gl p.tables e below PP (T1.setTop (mkF m 31 #[.val (.ref a1), .val (.int (2 : Int32))] [(.int ((2 : Int32) <<< ((1 : Int32) &&& 31)))]))
  rw [show ((2 : Int32) <<< ((1 : Int32) &&& 31)) = (4 : Int32) by decide]
  show Gl p.tables e below PP (T1.setTop (mkF m 31 #[.val (.ref a1), .val (.int (2 : Int32))] [(.int (4 : Int32))]))
  refine Gl.pre (fun _ k => XS.istoreN X1.here hx rfl (hb hby d16_31) rfl (l' := #[.val (.ref a1), .val (.int (4 : Int32))]) rfl k) ?_
  show Gl p.tables e below PP (T1.setTop (mkF m 32 #[.val (.ref a1), .val (.int (4 : Int32))] []))
  refine Gl.pre (fun _ k => XS.aloadN X1.here hx rfl (hb hby d16_32) rfl rfl k) ?_
  show Gl p.tables e below PP (T1.setTop (mkF m 33 #[.val (.ref a1), .val (.int (4 : Int32))] [(.ref a1)]))
  refine Gl.pre (fun _ k => XS.iloadN X1.here hx rfl (hb hby d16_33) rfl k) ?_
  show Gl p.tables e below PP (T1.setTop (mkF m 34 #[.val (.ref a1), .val (.int (4 : Int32))] [(.int (4 : Int32)), (.ref a1)]))
  refine Gl.pre (fun _ k => XS.iinc X1.here hx rfl (hb hby d16_34) rfl (l' := #[.val (.ref a1), .val (.int (5 : Int32))]) rfl k) ?_
  show Gl p.tables e below PP (T1.setTop (mkF m 37 #[.val (.ref a1), .val (.int (5 : Int32))] [(.int (4 : Int32)), (.ref a1)]))
  refine Gl.pre (fun _ k => own_ldB X1 hx hZ e1 V_a1 (j := (4 : Int32)) (i := 4) (by decide) (by decide) (Nat.lt_of_lt_of_eq (by decide : 4 < 6) rfl) (v := y4) rfl (g := (mkF m 37 #[.val (.ref a1), .val (.int (5 : Int32))] [(.int (4 : Int32)), (.ref a1)])) rfl rfl (hb hby d16_37) _ k) ?_
  show Gl p.tables e below PP (T1.setTop (mkF m 38 #[.val (.ref a1), .val (.int (5 : Int32))] [(.int y4)]))
  refine Gl.pre (fun _ k => XS.sipush X1.here hx rfl (hb hby d16_38) k) ?_
  show Gl p.tables e below PP (T1.setTop (mkF m 41 #[.val (.ref a1), .val (.int (5 : Int32))] [(.int (255 : Int32)), (.int y4)]))
  refine Gl.pre (fun _ k => XS.iand X1.here hx rfl (hb hby d16_41) rfl k) ?_
  show Gl p.tables e below PP (T1.setTop (mkF m 42 #[.val (.ref a1), .val (.int (5 : Int32))] [(.int (y4 &&& (255 : Int32)))]))
  obtain ⟨T2, X2, e2, st2⟩ := getS2 X1 hx hZ hown (host := "") (Or.inl (hw _ (List.mem_of_getElem? (i := 79) rfl))) Via.refl e1 (SHI.ext O_.2) (g := (mkF m 42 #[.val (.ref a1), .val (.int (5 : Int32))] [(.int (y4 &&& (255 : Int32)))])) rfl (hb hby d16_42)
  refine Gl.pre (fun _ k => st2 _ k) ?_
  show Gl p.tables e below PP (T2.setTop (mkF m 45 #[.val (.ref a1), .val (.int (5 : Int32))] [(.int (0 : Int32)), (.int (y4 &&& (255 : Int32)))]))
  refine Gl.pre (fun _ k => XS.ishl X2.here hx rfl (hb hby d16_45) rfl k) ?_
  show Gl p.tables e below PP (T2.setTop (mkF m 46 #[.val (.ref a1), .val (.int (5 : Int32))] [(.int ((y4 &&& (255 : Int32)) <<< ((0 : Int32) &&& 31)))]))
  refine Gl.pre (fun _ k => XS.aloadN X2.here hx rfl (hb hby d16_46) rfl rfl k) ?_
  show Gl p.tables e below PP (T2.setTop (mkF m 47 #[.val (.ref a1), .val (.int (5 : Int32))] [(.ref a1), (.int ((y4 &&& (255 : Int32)) <<< ((0 : Int32) &&& 31)))]))
  refine Gl.pre (fun _ k => XS.iloadN X2.here hx rfl (hb hby d16_47) rfl k) ?_
  show Gl p.tables e below PP (T2.setTop (mkF m 48 #[.val (.ref a1), .val (.int (5 : Int32))] [(.int (5 : Int32)), (.ref a1), (.int ((y4 &&& (255 : Int32)) <<< ((0 : Int32) &&& 31)))]))
  refine Gl.pre (fun _ k => own_ldB X2 hx hZ e2 V_a1 (j := (5 : Int32)) (i := 5) (by decide) (by decide) (Nat.lt_of_lt_of_eq (by decide : 5 < 6) rfl) (v := y5) rfl (g := (mkF m 48 #[.val (.ref a1), .val (.int (5 : Int32))] [(.int (5 : Int32)), (.ref a1), (.int ((y4 &&& (255 : Int32)) <<< ((0 : Int32) &&& 31)))])) rfl rfl (hb hby d16_48) _ k) ?_
  show Gl p.tables e below PP (T2.setTop (mkF m 49 #[.val (.ref a1), .val (.int (5 : Int32))] [(.int y5), (.int ((y4 &&& (255 : Int32)) <<< ((0 : Int32) &&& 31)))]))
  refine Gl.pre (fun _ k => XS.sipush X2.here hx rfl (hb hby d16_49) k) ?_
  show Gl p.tables e below PP (T2.setTop (mkF m 52 #[.val (.ref a1), .val (.int (5 : Int32))] [(.int (255 : Int32)), (.int y5), (.int ((y4 &&& (255 : Int32)) <<< ((0 : Int32) &&& 31)))]))
  refine Gl.pre (fun _ k => XS.iand X2.here hx rfl (hb hby d16_52) rfl k) ?_
  show Gl p.tables e below PP (T2.setTop (mkF m 53 #[.val (.ref a1), .val (.int (5 : Int32))] [(.int (y5 &&& (255 : Int32))), (.int ((y4 &&& (255 : Int32)) <<< ((0 : Int32) &&& 31)))]))
  obtain ⟨T3, X3, e3, st3⟩ := getS2 X2 hx hZ hown (host := "") (Or.inl (hw _ (List.mem_of_getElem? (i := 80) rfl))) Via.refl e2 (SLO.ext O_.2) (g := (mkF m 53 #[.val (.ref a1), .val (.int (5 : Int32))] [(.int (y5 &&& (255 : Int32))), (.int ((y4 &&& (255 : Int32)) <<< ((0 : Int32) &&& 31)))])) rfl (hb hby d16_53)
  refine Gl.pre (fun _ k => st3 _ k) ?_
  show Gl p.tables e below PP (T3.setTop (mkF m 56 #[.val (.ref a1), .val (.int (5 : Int32))] [(.int (8 : Int32)), (.int (y5 &&& (255 : Int32))), (.int ((y4 &&& (255 : Int32)) <<< ((0 : Int32) &&& 31)))]))
  refine Gl.pre (fun _ k => XS.ishl X3.here hx rfl (hb hby d16_56) rfl k) ?_
  show Gl p.tables e below PP (T3.setTop (mkF m 57 #[.val (.ref a1), .val (.int (5 : Int32))] [(.int ((y5 &&& (255 : Int32)) <<< ((8 : Int32) &&& 31))), (.int ((y4 &&& (255 : Int32)) <<< ((0 : Int32) &&& 31)))]))
  refine Gl.pre (fun _ k => XS.ior X3.here hx rfl (hb hby d16_57) rfl k) ?_
  show Gl p.tables e below PP (T3.setTop (mkF m 58 #[.val (.ref a1), .val (.int (5 : Int32))] [(.int (((y4 &&& (255 : Int32)) <<< ((0 : Int32) &&& 31)) ||| ((y5 &&& (255 : Int32)) <<< ((8 : Int32) &&& 31))))]))
  refine Gl.pre (fun _ k => XS.i2c X3.here hx rfl (hb hby d16_58) rfl k) ?_
  show Gl p.tables e below PP (T3.setTop (mkF m 59 #[.val (.ref a1), .val (.int (5 : Int32))] [(.int ((((y4 &&& (255 : Int32)) <<< ((0 : Int32) &&& 31)) ||| ((y5 &&& (255 : Int32)) <<< ((8 : Int32) &&& 31))).toUInt32.toUInt16.toUInt32.toInt32))]))
  rw [hPP]
  refine own_finN (Q := (Qgc3_2 Z a1 y0 y1 y2 y3 y4 y5 h0 n0)) X3 hx hlk Bd.returns (t := .char) (by simp) rfl (hb hby d16_59) ?_ (by decide) (by decide)
  show Qgc3_2 Z a1 y0 y1 y2 y3 y4 y5 h0 n0 _ T3.heap _
  rw [e3]
  exact ⟨rfl, N0, rfl⟩
theorem ef_cf3_3 (m : MethodId) (a1 : Addr) (ys : List Int32) : entryFrame m #[(.ref a1), (.int (3 : Int32))] 2 = mkF m 0 #[.val (.ref a1), .val (.int (3 : Int32))] [] := by first | (simp [entryFrame, mkF, argsToLocals, Value.category]; done) | rfl
def Qcf3_3 (Z : State) (a1 : Addr) (ys : List Int32) (h0 : Heap) (n0 : Nat) (v : Option Value) (h : Heap) (L : List Loc) : Prop := v = some (.int (0 : Int32)) ∧ Fr n0 L ∧ h = h0
set_option maxRecDepth 65536 in
set_option maxHeartbeats 40000000 in
theorem rmcf3_3 (l : Launch) (Z : State) (a0 : Array Value) (hw : ∀ d ∈ tables_1, d.before a0 Z = true) (ws : List Jvm.Cond) (a1 : Addr) (ys : List Int32) (h0 : Heap) (n0 : Nat) (Z0 : n0 ≤ h0.size) (V_a1 : Bal Z h0 a1 .byte ys) (hlen : ys.length = 3) :
    MetFree l (⟨"java/lang/StringUTF16", "coderFromArrayLen", "([BI)B"⟩ : MethodName) (head1 (Jvm.Cond.code (⟨"java/lang/StringUTF16", "coderFromArrayLen", "([BI)B"⟩ : MethodName) jdk_52_method_15_code 2 (some .byte) :: ws) ({ frames := 0, cells := 0, slots := 0, locals := 0 } : Room)) (fun a U => a = #[(.ref a1), (.int (3 : Int32))] ∧ Z.Warmed39 U.vm ∧ U.heap = h0) (fun _ _ _ _ _ => True) (fun _ U o U' => ∃ v L, o = .returned v ∧ Qcf3_3 Z a1 ys h0 n0 v U'.heap L ∧ FrameEnd U o U' L ({ frames := 0, cells := 0, slots := 0, locals := 0 } : Room).cells ({ frames := 0, cells := 0, slots := 0, locals := 0 } : Room).slots) := by
  refine MetFree.of_bodySF (plainFor_of_name pn_11) hisR ?_
  intro p e s m args below meth c s₁ Bd hml0 hP hK
  obtain ⟨rfl, hZ, hh⟩ := hP
  have hx := Bd.exec
  have hby := Bd.bytes
  have hlk : meth.locks = false := BodyLoose.notSynchronized Bd
  have hml : c.maxLocals = 2 := hml0
  have hown : s.vm.findClass "java/lang/StringUTF16" = some m.cls := findClass_of_methodNamed Bd.named
  have hnm := (name_of_methodNamed Bd.named Bd.method).1
  have X0 : Stand p l e ({ frames := 0, cells := 0, slots := 0, locals := 0 } : Room) s m #[(.ref a1), (.int (3 : Int32))] below meth c s₁ [] 0 0 := Stand.of_body Bd
  have e0 : s₁.heap = h0 := by rw [← hh, Bd.state]; rfl
  have N0 := Fr.nil n0
  show Gl p.tables e below (fun (o : Outcome) (U' : State) => ∃ v L, o = .returned v ∧ Qcf3_3 Z a1 ys h0 n0 v U'.heap L ∧ FrameEnd s o U' L ({ frames := 0, cells := 0, slots := 0, locals := 0 } : Room).cells ({ frames := 0, cells := 0, slots := 0, locals := 0 } : Room).slots) _
  refine Gl.pre (fun t k => castTop (ef_cf3_3 m a1 ys) k) ?_
  obtain ⟨PP, hPP⟩ : ∃ P : Outcome → State → Prop, P = (fun (o : Outcome) (U' : State) => ∃ v L, o = .returned v ∧ Qcf3_3 Z a1 ys h0 n0 v U'.heap L ∧ FrameEnd s o U' L ({ frames := 0, cells := 0, slots := 0, locals := 0 } : Room).cells ({ frames := 0, cells := 0, slots := 0, locals := 0 } : Room).slots) := ⟨_, rfl⟩
  rw [← hPP]
  show Gl p.tables e below PP (s₁.setTop (mkF m 0 #[.val (.ref a1), .val (.int (3 : Int32))] []))
  refine Gl.pre (fun _ k => XS.iloadN X0.here hx rfl (hb hby d11_0) rfl k) ?_
  show Gl p.tables e below PP (s₁.setTop (mkF m 1 #[.val (.ref a1), .val (.int (3 : Int32))] [(.int (3 : Int32))]))
  refine Gl.pre (fun _ k => XS.aloadN X0.here hx rfl (hb hby d11_1) rfl rfl k) ?_
  show Gl p.tables e below PP (s₁.setTop (mkF m 2 #[.val (.ref a1), .val (.int (3 : Int32))] [(.ref a1), (.int (3 : Int32))]))
  refine Gl.pre (fun _ k => own_len X0 hx hZ e0 V_a1 (v := (3 : Int32)) (by rw [hlen]; rfl) (g := (mkF m 2 #[.val (.ref a1), .val (.int (3 : Int32))] [(.ref a1), (.int (3 : Int32))])) rfl rfl (hb hby d11_2) _ k) ?_
  show Gl p.tables e below PP (s₁.setTop (mkF m 3 #[.val (.ref a1), .val (.int (3 : Int32))] [(.int (3 : Int32)), (.int (3 : Int32))]))
  refine Gl.pre (fun _ k => XS.isub X0.here hx rfl (hb hby d11_3) rfl k) ?_
  show Gl p.tables e below PP (s₁.setTop (mkF m 4 #[.val (.ref a1), .val (.int (3 : Int32))] [(.int ((3 : Int32) - (3 : Int32)))]))
  rw [show ((3 : Int32) - (3 : Int32)) = (0 : Int32) by decide]
  show Gl p.tables e below PP (s₁.setTop (mkF m 4 #[.val (.ref a1), .val (.int (3 : Int32))] [(.int (0 : Int32))]))
  refine Gl.pre (fun _ k => XS.bipush X0.here hx rfl (hb hby d11_4) k) ?_
  show Gl p.tables e below PP (s₁.setTop (mkF m 6 #[.val (.ref a1), .val (.int (3 : Int32))] [(.int (31 : Int32)), (.int (0 : Int32))]))
  refine Gl.pre (fun _ k => XS.iushr X0.here hx rfl (hb hby d11_6) rfl k) ?_
  show Gl p.tables e below PP (s₁.setTop (mkF m 7 #[.val (.ref a1), .val (.int (3 : Int32))] [(.int (own_ushr (0 : Int32) (31 : Int32)))]))
  rw [show (own_ushr (0 : Int32) (31 : Int32)) = (0 : Int32) by decide]
  show Gl p.tables e below PP (s₁.setTop (mkF m 7 #[.val (.ref a1), .val (.int (3 : Int32))] [(.int (0 : Int32))]))
  refine Gl.pre (fun _ k => XS.i2b X0.here hx rfl (hb hby d11_7) rfl k) ?_
  show Gl p.tables e below PP (s₁.setTop (mkF m 8 #[.val (.ref a1), .val (.int (3 : Int32))] [(.int ((0 : Int32).toInt8.toInt32))]))
  rw [show ((0 : Int32).toInt8.toInt32) = (0 : Int32) by decide]
  show Gl p.tables e below PP (s₁.setTop (mkF m 8 #[.val (.ref a1), .val (.int (3 : Int32))] [(.int (0 : Int32))]))
  rw [hPP]
  refine own_finN (Q := (Qcf3_3 Z a1 ys h0 n0)) X0 hx hlk Bd.returns (t := .byte) (z' := (0 : Int32)) (by simp) (by decide) (hb hby d11_8) ?_ (by decide) (by decide)
  show Qcf3_3 Z a1 ys h0 n0 _ s₁.heap _
  rw [e0]
  exact ⟨rfl, N0, rfl⟩
theorem ef_cf3_6 (m : MethodId) (a1 : Addr) (ys : List Int32) : entryFrame m #[(.ref a1), (.int (3 : Int32))] 2 = mkF m 0 #[.val (.ref a1), .val (.int (3 : Int32))] [] := by first | (simp [entryFrame, mkF, argsToLocals, Value.category]; done) | rfl
def Qcf3_6 (Z : State) (a1 : Addr) (ys : List Int32) (h0 : Heap) (n0 : Nat) (v : Option Value) (h : Heap) (L : List Loc) : Prop := v = some (.int (1 : Int32)) ∧ Fr n0 L ∧ h = h0
set_option maxRecDepth 65536 in
set_option maxHeartbeats 40000000 in
theorem rmcf3_6 (l : Launch) (Z : State) (a0 : Array Value) (hw : ∀ d ∈ tables_1, d.before a0 Z = true) (ws : List Jvm.Cond) (a1 : Addr) (ys : List Int32) (h0 : Heap) (n0 : Nat) (Z0 : n0 ≤ h0.size) (V_a1 : Bal Z h0 a1 .byte ys) (hlen : ys.length = 6) :
    MetFree l (⟨"java/lang/StringUTF16", "coderFromArrayLen", "([BI)B"⟩ : MethodName) (head1 (Jvm.Cond.code (⟨"java/lang/StringUTF16", "coderFromArrayLen", "([BI)B"⟩ : MethodName) jdk_52_method_15_code 2 (some .byte) :: ws) ({ frames := 0, cells := 0, slots := 0, locals := 0 } : Room)) (fun a U => a = #[(.ref a1), (.int (3 : Int32))] ∧ Z.Warmed39 U.vm ∧ U.heap = h0) (fun _ _ _ _ _ => True) (fun _ U o U' => ∃ v L, o = .returned v ∧ Qcf3_6 Z a1 ys h0 n0 v U'.heap L ∧ FrameEnd U o U' L ({ frames := 0, cells := 0, slots := 0, locals := 0 } : Room).cells ({ frames := 0, cells := 0, slots := 0, locals := 0 } : Room).slots) := by
  refine MetFree.of_bodySF (plainFor_of_name pn_11) hisR ?_
  intro p e s m args below meth c s₁ Bd hml0 hP hK
  obtain ⟨rfl, hZ, hh⟩ := hP
  have hx := Bd.exec
  have hby := Bd.bytes
  have hlk : meth.locks = false := BodyLoose.notSynchronized Bd
  have hml : c.maxLocals = 2 := hml0
  have hown : s.vm.findClass "java/lang/StringUTF16" = some m.cls := findClass_of_methodNamed Bd.named
  have hnm := (name_of_methodNamed Bd.named Bd.method).1
  have X0 : Stand p l e ({ frames := 0, cells := 0, slots := 0, locals := 0 } : Room) s m #[(.ref a1), (.int (3 : Int32))] below meth c s₁ [] 0 0 := Stand.of_body Bd
  have e0 : s₁.heap = h0 := by rw [← hh, Bd.state]; rfl
  have N0 := Fr.nil n0
  show Gl p.tables e below (fun (o : Outcome) (U' : State) => ∃ v L, o = .returned v ∧ Qcf3_6 Z a1 ys h0 n0 v U'.heap L ∧ FrameEnd s o U' L ({ frames := 0, cells := 0, slots := 0, locals := 0 } : Room).cells ({ frames := 0, cells := 0, slots := 0, locals := 0 } : Room).slots) _
  refine Gl.pre (fun t k => castTop (ef_cf3_6 m a1 ys) k) ?_
  obtain ⟨PP, hPP⟩ : ∃ P : Outcome → State → Prop, P = (fun (o : Outcome) (U' : State) => ∃ v L, o = .returned v ∧ Qcf3_6 Z a1 ys h0 n0 v U'.heap L ∧ FrameEnd s o U' L ({ frames := 0, cells := 0, slots := 0, locals := 0 } : Room).cells ({ frames := 0, cells := 0, slots := 0, locals := 0 } : Room).slots) := ⟨_, rfl⟩
  rw [← hPP]
  show Gl p.tables e below PP (s₁.setTop (mkF m 0 #[.val (.ref a1), .val (.int (3 : Int32))] []))
  refine Gl.pre (fun _ k => XS.iloadN X0.here hx rfl (hb hby d11_0) rfl k) ?_
  show Gl p.tables e below PP (s₁.setTop (mkF m 1 #[.val (.ref a1), .val (.int (3 : Int32))] [(.int (3 : Int32))]))
  refine Gl.pre (fun _ k => XS.aloadN X0.here hx rfl (hb hby d11_1) rfl rfl k) ?_
  show Gl p.tables e below PP (s₁.setTop (mkF m 2 #[.val (.ref a1), .val (.int (3 : Int32))] [(.ref a1), (.int (3 : Int32))]))
  refine Gl.pre (fun _ k => own_len X0 hx hZ e0 V_a1 (v := (6 : Int32)) (by rw [hlen]; rfl) (g := (mkF m 2 #[.val (.ref a1), .val (.int (3 : Int32))] [(.ref a1), (.int (3 : Int32))])) rfl rfl (hb hby d11_2) _ k) ?_
  show Gl p.tables e below PP (s₁.setTop (mkF m 3 #[.val (.ref a1), .val (.int (3 : Int32))] [(.int (6 : Int32)), (.int (3 : Int32))]))
  refine Gl.pre (fun _ k => XS.isub X0.here hx rfl (hb hby d11_3) rfl k) ?_
  show Gl p.tables e below PP (s₁.setTop (mkF m 4 #[.val (.ref a1), .val (.int (3 : Int32))] [(.int ((3 : Int32) - (6 : Int32)))]))
  rw [show ((3 : Int32) - (6 : Int32)) = (-3 : Int32) by decide]
  show Gl p.tables e below PP (s₁.setTop (mkF m 4 #[.val (.ref a1), .val (.int (3 : Int32))] [(.int (-3 : Int32))]))
  refine Gl.pre (fun _ k => XS.bipush X0.here hx rfl (hb hby d11_4) k) ?_
  show Gl p.tables e below PP (s₁.setTop (mkF m 6 #[.val (.ref a1), .val (.int (3 : Int32))] [(.int (31 : Int32)), (.int (-3 : Int32))]))
  refine Gl.pre (fun _ k => XS.iushr X0.here hx rfl (hb hby d11_6) rfl k) ?_
  show Gl p.tables e below PP (s₁.setTop (mkF m 7 #[.val (.ref a1), .val (.int (3 : Int32))] [(.int (own_ushr (-3 : Int32) (31 : Int32)))]))
  rw [show (own_ushr (-3 : Int32) (31 : Int32)) = (1 : Int32) by decide]
  show Gl p.tables e below PP (s₁.setTop (mkF m 7 #[.val (.ref a1), .val (.int (3 : Int32))] [(.int (1 : Int32))]))
  refine Gl.pre (fun _ k => XS.i2b X0.here hx rfl (hb hby d11_7) rfl k) ?_
  show Gl p.tables e below PP (s₁.setTop (mkF m 8 #[.val (.ref a1), .val (.int (3 : Int32))] [(.int ((1 : Int32).toInt8.toInt32))]))
  rw [show ((1 : Int32).toInt8.toInt32) = (1 : Int32) by decide]
  show Gl p.tables e below PP (s₁.setTop (mkF m 8 #[.val (.ref a1), .val (.int (3 : Int32))] [(.int (1 : Int32))]))
  rw [hPP]
  refine own_finN (Q := (Qcf3_6 Z a1 ys h0 n0)) X0 hx hlk Bd.returns (t := .byte) (z' := (1 : Int32)) (by simp) (by decide) (hb hby d11_8) ?_ (by decide) (by decide)
  show Qcf3_6 Z a1 ys h0 n0 _ s₁.heap _
  rw [e0]
  exact ⟨rfl, N0, rfl⟩
theorem ef_cm3 (m : MethodId) (a1 : Addr) (c0 : Int32) (c1 : Int32) (c2 : Int32) : entryFrame m #[(.ref a1), (.int (0 : Int32)), (.int (3 : Int32))] 6 = mkF m 0 #[.val (.ref a1), .val (.int (0 : Int32)), .val (.int (3 : Int32)), .unset, .unset, .unset] [] := by first | (simp [entryFrame, mkF, argsToLocals, Value.category]; done) | rfl
def Qcm3 (Z : State) (a1 : Addr) (c0 : Int32) (c1 : Int32) (c2 : Int32) (h0 : Heap) (n0 : Nat) (v : Option Value) (h : Heap) (L : List Loc) : Prop := ∃ (b : Addr) (ys : List Int32), v = some (.ref b) ∧ Fr n0 L ∧ h0.size ≤ b ∧ Keep h0 h [] ∧ (ys.length = 3 ∨ ys.length = 6) ∧ Bal Z h b .byte ys
set_option maxRecDepth 65536 in
set_option maxHeartbeats 40000000 in
theorem rmcm3 (l : Launch) (Z : State) (a0 : Array Value) (hw : ∀ d ∈ tables_1, d.before a0 Z = true) (ws : List Jvm.Cond) (a1 : Addr) (c0 : Int32) (c1 : Int32) (c2 : Int32) (h0 : Heap) (n0 : Nat) (Z0 : n0 ≤ h0.size) (V_a1 : Bal Z h0 a1 .char [c0, c1, c2]) (hr0 : 0 ≤ c0.toInt ∧ c0.toInt < 65536) (hr1 : 0 ≤ c1.toInt ∧ c1.toInt < 65536) (hr2 : 0 ≤ c2.toInt ∧ c2.toInt < 65536) (SAD : Sta Z Z.heap "java/lang/StringUTF16" "$assertionsDisabled" "Z" (.int (1 : Int32))) (SHI : Sta Z Z.heap "java/lang/StringUTF16" "HI_BYTE_SHIFT" "I" (.int (0 : Int32))) (SLO : Sta Z Z.heap "java/lang/StringUTF16" "LO_BYTE_SHIFT" "I" (.int (8 : Int32))) (O_ : Old Z n0 h0) :
    MetFree l (⟨"java/lang/StringUTF16", "compress", "([CII)[B"⟩ : MethodName) (head1 (Jvm.Cond.code (⟨"java/lang/StringUTF16", "compress", "([CII)[B"⟩ : MethodName) jdk_52_method_16_code 6 (some (.array .byte)) :: ws) ({ frames := 3, cells := 2, slots := 9, locals := 40 } : Room)) (fun a U => a = #[(.ref a1), (.int (0 : Int32)), (.int (3 : Int32))] ∧ Z.Warmed39 U.vm ∧ U.heap = h0) (fun _ _ _ _ _ => True) (fun _ U o U' => ∃ v L, o = .returned v ∧ Qcm3 Z a1 c0 c1 c2 h0 n0 v U'.heap L ∧ FrameEnd U o U' L ({ frames := 3, cells := 2, slots := 9, locals := 40 } : Room).cells ({ frames := 3, cells := 2, slots := 9, locals := 40 } : Room).slots) := by
  refine MetFree.of_bodySF (plainFor_of_name pn_9) hisR ?_
  intro p e s m args below meth c s₁ Bd hml0 hP hK
  obtain ⟨rfl, hZ, hh⟩ := hP
  have hx := Bd.exec
  have hby := Bd.bytes
  have hlk : meth.locks = false := BodyLoose.notSynchronized Bd
  have hml : c.maxLocals = 6 := hml0
  have hown : s.vm.findClass "java/lang/StringUTF16" = some m.cls := findClass_of_methodNamed Bd.named
  have hnm := (name_of_methodNamed Bd.named Bd.method).1
  have X0 : Stand p l e ({ frames := 3, cells := 2, slots := 9, locals := 40 } : Room) s m #[(.ref a1), (.int (0 : Int32)), (.int (3 : Int32))] below meth c s₁ [] 0 0 := Stand.of_body Bd
  have e0 : s₁.heap = h0 := by rw [← hh, Bd.state]; rfl
  have N0 := Fr.nil n0
  show Gl p.tables e below (fun (o : Outcome) (U' : State) => ∃ v L, o = .returned v ∧ Qcm3 Z a1 c0 c1 c2 h0 n0 v U'.heap L ∧ FrameEnd s o U' L ({ frames := 3, cells := 2, slots := 9, locals := 40 } : Room).cells ({ frames := 3, cells := 2, slots := 9, locals := 40 } : Room).slots) _
  refine Gl.pre (fun t k => castTop (ef_cm3 m a1 c0 c1 c2) k) ?_
  obtain ⟨PP, hPP⟩ : ∃ P : Outcome → State → Prop, P = (fun (o : Outcome) (U' : State) => ∃ v L, o = .returned v ∧ Qcm3 Z a1 c0 c1 c2 h0 n0 v U'.heap L ∧ FrameEnd s o U' L ({ frames := 3, cells := 2, slots := 9, locals := 40 } : Room).cells ({ frames := 3, cells := 2, slots := 9, locals := 40 } : Room).slots) := ⟨_, rfl⟩
  rw [← hPP]
  have K0 : Keep h0 h0 [] := Keep.refl h0 _
  show Gl p.tables e below PP (s₁.setTop (mkF m 0 #[.val (.ref a1), .val (.int (0 : Int32)), .val (.int (3 : Int32)), .unset, .unset, .unset] []))
  refine Gl.pre (fun _ k => XS.iloadN X0.here hx rfl (hb hby d9_0) rfl k) ?_
  show Gl p.tables e below PP (s₁.setTop (mkF m 1 #[.val (.ref a1), .val (.int (0 : Int32)), .val (.int (3 : Int32)), .unset, .unset, .unset] [(.int (3 : Int32))]))
  obtain ⟨T1, h1, k1, X1, e1, E1, A1, st1⟩ := newP X0 hx hZ (hw _ (List.mem_of_getElem? (i := 19) rfl)) e0 (g := (mkF m 1 #[.val (.ref a1), .val (.int (0 : Int32)), .val (.int (3 : Int32)), .unset, .unset, .unset] [(.int (3 : Int32))])) rfl (hb hby d9_1) rfl (by decide) (cap := 3) (by decide) (by decide) (by decide) (by decide)
  obtain ⟨b1, g1⟩ : ∃ z, z = h0.size := ⟨_, rfl⟩
  rw [← g1] at A1 st1
  refine Gl.pre (fun _ k => st1 _ k) ?_
  have own_ne_a1_b1 : a1 ≠ b1 := by have q := V_a1.lt; rw [g1]; exact Nat.ne_of_lt q
  have own_ne_b1_a1 : b1 ≠ a1 := own_ne_a1_b1.symm
  have g_b1 : n0 ≤ b1 := Nat.le_trans Z0 (Nat.le_of_eq g1.symm)
  have sz_b1 : h0.size ≤ b1 := Nat.le_trans K0.1 (Nat.le_of_eq g1.symm)
  have V_a1 := V_a1.ext E1
  have O_ := O_.ext E1
  have Z1 : n0 ≤ h1.size := Nat.le_trans Z0 E1.1
  have K1 := K0.ext E1
  have V_b1 : Bal Z h1 b1 .byte [(0 : Int32), (0 : Int32), (0 : Int32)] := Bal.new (ty := .byte) A1 (n := 3) (by decide) rfl
  show Gl p.tables e below PP (T1.setTop (mkF m 3 #[.val (.ref a1), .val (.int (0 : Int32)), .val (.int (3 : Int32)), .unset, .unset, .unset] [(.ref b1)]))
  refine Gl.pre (fun _ k => XS.astoreN X1.here hx rfl (hb hby d9_3) rfl rfl (l' := #[.val (.ref a1), .val (.int (0 : Int32)), .val (.int (3 : Int32)), .val (.ref b1), .unset, .unset]) rfl k) ?_
  show Gl p.tables e below PP (T1.setTop (mkF m 4 #[.val (.ref a1), .val (.int (0 : Int32)), .val (.int (3 : Int32)), .val (.ref b1), .unset, .unset] []))
  refine Gl.pre (fun _ k => XS.aloadN X1.here hx rfl (hb hby d9_4) rfl rfl k) ?_
  show Gl p.tables e below PP (T1.setTop (mkF m 5 #[.val (.ref a1), .val (.int (0 : Int32)), .val (.int (3 : Int32)), .val (.ref b1), .unset, .unset] [(.ref a1)]))
  refine Gl.pre (fun _ k => XS.iloadN X1.here hx rfl (hb hby d9_5) rfl k) ?_
  show Gl p.tables e below PP (T1.setTop (mkF m 6 #[.val (.ref a1), .val (.int (0 : Int32)), .val (.int (3 : Int32)), .val (.ref b1), .unset, .unset] [(.int (0 : Int32)), (.ref a1)]))
  refine Gl.pre (fun _ k => XS.aloadN X1.here hx rfl (hb hby d9_6) rfl rfl k) ?_
  show Gl p.tables e below PP (T1.setTop (mkF m 7 #[.val (.ref a1), .val (.int (0 : Int32)), .val (.int (3 : Int32)), .val (.ref b1), .unset, .unset] [(.ref b1), (.int (0 : Int32)), (.ref a1)]))
  refine Gl.pre (fun _ k => XS.iconst X1.here hx rfl (hb hby d9_7) k) ?_
  show Gl p.tables e below PP (T1.setTop (mkF m 8 #[.val (.ref a1), .val (.int (0 : Int32)), .val (.int (3 : Int32)), .val (.ref b1), .unset, .unset] [(.int (0 : Int32)), (.ref b1), (.int (0 : Int32)), (.ref a1)]))
  refine Gl.pre (fun _ k => XS.iloadN X1.here hx rfl (hb hby d9_8) rfl k) ?_
  show Gl p.tables e below PP (T1.setTop (mkF m 9 #[.val (.ref a1), .val (.int (0 : Int32)), .val (.int (3 : Int32)), .val (.ref b1), .unset, .unset] [(.int (3 : Int32)), (.int (0 : Int32)), (.ref b1), (.int (0 : Int32)), (.ref a1)]))
  by_cases hc0 : (255 : Int32) < c0
  · show Gl p.tables e below PP (T1.setTop (mkF m 9 #[.val (.ref a1), .val (.int (0 : Int32)), .val (.int (3 : Int32)), .val (.ref b1), .unset, .unset] [(.int (3 : Int32)), (.int (0 : Int32)), (.ref b1), (.int (0 : Int32)), (.ref a1)]))
    obtain ⟨_, _, ⟨T2, L2, k2, n2⟩, -, X2, ⟨Lc2, hQ2, l2, y2, z2⟩, st2⟩ := Jvm.LawKit.callS X1 hx (y := (⟨"java/lang/StringUTF16", "compress", "([CI[BII)I"⟩ : MethodName)) hown (mvT hZ (hw _ (List.mem_of_getElem? (i := 59) rfl))) (mvT hZ (hw _ (List.mem_of_getElem? (i := 60) rfl))) (mvT hZ (hw _ (List.mem_of_getElem? (i := 57) rfl))) (mvT hZ (hw _ (List.mem_of_getElem? (i := 61) rfl))) (by decide) (backOf (W := 0) (rmcz3_0 l Z a0 hw [] a1 b1 c0 c1 c2 h1 n0 Z1 V_a1 V_b1 g_b1 own_ne_a1_b1 own_ne_b1_a1 hc0) hZ (hw _ (List.mem_of_getElem? (i := 61) rfl)) (hw _ (List.mem_of_getElem? (i := 57) rfl)) (by decide) (by decide)) (g := (mkF m 9 #[.val (.ref a1), .val (.int (0 : Int32)), .val (.int (3 : Int32)), .val (.ref b1), .unset, .unset] [(.int (3 : Int32)), (.int (0 : Int32)), (.ref b1), (.int (0 : Int32)), (.ref a1)])) rfl (by rw [hml]; rfl) (argsL := [(.ref a1), (.int (0 : Int32)), (.ref b1), (.int (0 : Int32)), (.int (3 : Int32))]) (rest := []) (lenOf pd_3 rfl) rfl (by show 2 * 0 + _ ≤ _; exact Nat.le_of_eq rfl) (hb hby d9_9) (fun _ _ => ⟨rfl, e1, (by decide : 1 + 0 ≤ _), (by decide : 3 + 0 ≤ _)⟩)
    dsimp only [Pt.U, Pt.locs, Pt.cells, Pt.slots] at X2 l2 y2 z2 st2 hQ2
    subst l2 y2 z2
    obtain ⟨rfl, N2q, K2, ys2, hys2, V2q⟩ := hQ2
    have N2 := Fr.app N0 N2q
    refine Gl.pre (fun _ k => st2 _ k) ?_
    have V_a1 := V_a1.keep K2 (ninS (own_ne_a1_b1) nin0)
    have O_ := O_.keep K2 (allS g_b1 all0)
    have Z2 : n0 ≤ T2.heap.size := Nat.le_trans Z1 K2.1
    have K2k := K1.trans K2 (allS (Or.inr sz_b1) all0)
    have V_b1 := V2q
    show Gl p.tables e below PP (T2.setTop (mkF m 12 #[.val (.ref a1), .val (.int (0 : Int32)), .val (.int (3 : Int32)), .val (.ref b1), .unset, .unset] [(.int (0 : Int32))]))
    refine Gl.pre (fun _ k => XS.istore X2.here hx rfl (hb hby d9_12) rfl (l' := #[.val (.ref a1), .val (.int (0 : Int32)), .val (.int (3 : Int32)), .val (.ref b1), .val (.int (0 : Int32)), .unset]) rfl k) ?_
    show Gl p.tables e below PP (T2.setTop (mkF m 14 #[.val (.ref a1), .val (.int (0 : Int32)), .val (.int (3 : Int32)), .val (.ref b1), .val (.int (0 : Int32)), .unset] []))
    refine Gl.pre (fun _ k => XS.iload X2.here hx rfl (hb hby d9_14) rfl k) ?_
    show Gl p.tables e below PP (T2.setTop (mkF m 16 #[.val (.ref a1), .val (.int (0 : Int32)), .val (.int (3 : Int32)), .val (.ref b1), .val (.int (0 : Int32)), .unset] [(.int (0 : Int32))]))
    refine Gl.pre (fun _ k => XS.iloadN X2.here hx rfl (hb hby d9_16) rfl k) ?_
    show Gl p.tables e below PP (T2.setTop (mkF m 17 #[.val (.ref a1), .val (.int (0 : Int32)), .val (.int (3 : Int32)), .val (.ref b1), .val (.int (0 : Int32)), .unset] [(.int (3 : Int32)), (.int (0 : Int32))]))
    refine Gl.pre (fun _ k => XS.icmpNo X2.here hx rfl (hb hby d9_17) rfl (feq (show ¬ ((0 : Int32) = (3 : Int32)) from (by decide))).1 k) ?_
    show Gl p.tables e below PP (T2.setTop (mkF m 20 #[.val (.ref a1), .val (.int (0 : Int32)), .val (.int (3 : Int32)), .val (.ref b1), .val (.int (0 : Int32)), .unset] []))
    refine Gl.pre (fun _ k => XS.aloadN X2.here hx rfl (hb hby d9_20) rfl rfl k) ?_
    show Gl p.tables e below PP (T2.setTop (mkF m 21 #[.val (.ref a1), .val (.int (0 : Int32)), .val (.int (3 : Int32)), .val (.ref b1), .val (.int (0 : Int32)), .unset] [(.ref a1)]))
    refine Gl.pre (fun _ k => XS.iloadN X2.here hx rfl (hb hby d9_21) rfl k) ?_
    show Gl p.tables e below PP (T2.setTop (mkF m 22 #[.val (.ref a1), .val (.int (0 : Int32)), .val (.int (3 : Int32)), .val (.ref b1), .val (.int (0 : Int32)), .unset] [(.int (0 : Int32)), (.ref a1)]))
    refine Gl.pre (fun _ k => XS.iloadN X2.here hx rfl (hb hby d9_22) rfl k) ?_
    show Gl p.tables e below PP (T2.setTop (mkF m 23 #[.val (.ref a1), .val (.int (0 : Int32)), .val (.int (3 : Int32)), .val (.ref b1), .val (.int (0 : Int32)), .unset] [(.int (3 : Int32)), (.int (0 : Int32)), (.ref a1)]))
    obtain ⟨_, _, ⟨T3, L3, k3, n3⟩, -, X3, ⟨Lc3, hQ3, l3, y3, z3⟩, st3⟩ := Jvm.LawKit.callS X2 hx (y := (⟨"java/lang/StringUTF16", "toBytes", "([CII)[B"⟩ : MethodName)) hown (mvT hZ (hw _ (List.mem_of_getElem? (i := 65) rfl))) (mvT hZ (hw _ (List.mem_of_getElem? (i := 66) rfl))) (mvT hZ (hw _ (List.mem_of_getElem? (i := 57) rfl))) (mvT hZ (hw _ (List.mem_of_getElem? (i := 67) rfl))) (by decide) (backOf (W := 0) (rmtb3 l Z a0 hw [] a1 c0 c1 c2 T2.heap n0 Z2 V_a1 SAD SHI SLO O_) hZ (hw _ (List.mem_of_getElem? (i := 67) rfl)) (hw _ (List.mem_of_getElem? (i := 57) rfl)) (by decide) (by decide)) (g := (mkF m 23 #[.val (.ref a1), .val (.int (0 : Int32)), .val (.int (3 : Int32)), .val (.ref b1), .val (.int (0 : Int32)), .unset] [(.int (3 : Int32)), (.int (0 : Int32)), (.ref a1)])) rfl (by rw [hml]; rfl) (argsL := [(.ref a1), (.int (0 : Int32)), (.int (3 : Int32))]) (rest := []) (lenOf pd_4 rfl) rfl (by show 2 * 0 + _ ≤ _; exact Nat.le_of_eq rfl) (hb hby d9_23) (fun _ _ => ⟨rfl, rfl, (by decide : 1 + 1 ≤ _), (by decide : 3 + 6 ≤ _)⟩)
    dsimp only [Pt.U, Pt.locs, Pt.cells, Pt.slots] at X3 l3 y3 z3 st3 hQ3
    subst l3 y3 z3
    obtain ⟨bt3, rfl, N3q, hz3, K3, V3q⟩ := hQ3
    have N3 := Fr.app N2 N3q
    refine Gl.pre (fun _ k => st3 _ k) ?_
    have own_ne_a1_bt3 : a1 ≠ bt3 := Nat.ne_of_lt (Nat.lt_of_lt_of_le V_a1.lt hz3)
    have own_ne_bt3_a1 := own_ne_a1_bt3.symm
    have own_ne_b1_bt3 : b1 ≠ bt3 := Nat.ne_of_lt (Nat.lt_of_lt_of_le V_b1.lt hz3)
    have own_ne_bt3_b1 := own_ne_b1_bt3.symm
    have g_bt3 : n0 ≤ bt3 := Nat.le_trans Z2 hz3
    have sz_bt3 : h0.size ≤ bt3 := Nat.le_trans K2k.1 hz3
    have V_a1 := V_a1.keep K3 nin0
    have O_ := O_.keep K3 all0
    have V_b1 := V_b1.keep K3 nin0
    have Z3 : n0 ≤ T3.heap.size := Nat.le_trans Z2 K3.1
    have K3k := K2k.trans K3 all0
    have V_bt3 := V3q
    show Gl p.tables e below PP (T3.setTop (mkF m 26 #[.val (.ref a1), .val (.int (0 : Int32)), .val (.int (3 : Int32)), .val (.ref b1), .val (.int (0 : Int32)), .unset] [(.ref bt3)]))
    refine Gl.pre (fun _ k => XS.astore X3.here hx rfl (hb hby d9_26) rfl rfl (l' := #[.val (.ref a1), .val (.int (0 : Int32)), .val (.int (3 : Int32)), .val (.ref b1), .val (.int (0 : Int32)), .val (.ref bt3)]) rfl k) ?_
    show Gl p.tables e below PP (T3.setTop (mkF m 28 #[.val (.ref a1), .val (.int (0 : Int32)), .val (.int (3 : Int32)), .val (.ref b1), .val (.int (0 : Int32)), .val (.ref bt3)] []))
    refine Gl.pre (fun _ k => XS.aload X3.here hx rfl (hb hby d9_28) rfl rfl k) ?_
    show Gl p.tables e below PP (T3.setTop (mkF m 30 #[.val (.ref a1), .val (.int (0 : Int32)), .val (.int (3 : Int32)), .val (.ref b1), .val (.int (0 : Int32)), .val (.ref bt3)] [(.ref bt3)]))
    refine Gl.pre (fun _ k => XS.iload X3.here hx rfl (hb hby d9_30) rfl k) ?_
    show Gl p.tables e below PP (T3.setTop (mkF m 32 #[.val (.ref a1), .val (.int (0 : Int32)), .val (.int (3 : Int32)), .val (.ref b1), .val (.int (0 : Int32)), .val (.ref bt3)] [(.int (0 : Int32)), (.ref bt3)]))
    obtain ⟨_, _, ⟨T4, L4, k4, n4⟩, -, X4, ⟨Lc4, hQ4, l4, y4, z4⟩, st4⟩ := Jvm.LawKit.callS X3 hx (y := (⟨"java/lang/StringUTF16", "getChar", "([BI)C"⟩ : MethodName)) hown (mvT hZ (hw _ (List.mem_of_getElem? (i := 81) rfl))) (mvT hZ (hw _ (List.mem_of_getElem? (i := 82) rfl))) (mvT hZ (hw _ (List.mem_of_getElem? (i := 57) rfl))) (mvT hZ (hw _ (List.mem_of_getElem? (i := 83) rfl))) (by decide) (backOf (W := 0) (rmgc3_0 l Z a0 hw [] bt3 (nar .byte ((c0 >>> ((0 : Int32) &&& 31)).toInt8.toInt32)) (nar .byte ((c0 >>> ((8 : Int32) &&& 31)).toInt8.toInt32)) (nar .byte ((c1 >>> ((0 : Int32) &&& 31)).toInt8.toInt32)) (nar .byte ((c1 >>> ((8 : Int32) &&& 31)).toInt8.toInt32)) (nar .byte ((c2 >>> ((0 : Int32) &&& 31)).toInt8.toInt32)) (nar .byte ((c2 >>> ((8 : Int32) &&& 31)).toInt8.toInt32)) T3.heap n0 Z3 V_bt3 SAD SHI SLO O_) hZ (hw _ (List.mem_of_getElem? (i := 83) rfl)) (hw _ (List.mem_of_getElem? (i := 57) rfl)) (by decide) (by decide)) (g := (mkF m 32 #[.val (.ref a1), .val (.int (0 : Int32)), .val (.int (3 : Int32)), .val (.ref b1), .val (.int (0 : Int32)), .val (.ref bt3)] [(.int (0 : Int32)), (.ref bt3)])) rfl (by rw [hml]; rfl) (argsL := [(.ref bt3), (.int (0 : Int32))]) (rest := []) (lenOf pd_5 rfl) rfl (by show 2 * 0 + _ ≤ _; exact Nat.le_of_eq rfl) (hb hby d9_32) (fun _ _ => ⟨rfl, rfl, (by decide : 2 + 0 ≤ _), (by decide : 9 + 0 ≤ _)⟩)
    dsimp only [Pt.U, Pt.locs, Pt.cells, Pt.slots] at X4 l4 y4 z4 st4 hQ4
    subst l4 y4 z4
    obtain ⟨rfl, N4q, e4⟩ := hQ4
    have N4 := Fr.app N3 N4q
    refine Gl.pre (fun _ k => st4 _ k) ?_
    show Gl p.tables e below PP (T4.setTop (mkF m 35 #[.val (.ref a1), .val (.int (0 : Int32)), .val (.int (3 : Int32)), .val (.ref b1), .val (.int (0 : Int32)), .val (.ref bt3)] [(.int (nar .char (((((nar .byte ((c0 >>> ((0 : Int32) &&& 31)).toInt8.toInt32)) &&& (255 : Int32)) <<< ((0 : Int32) &&& 31)) ||| (((nar .byte ((c0 >>> ((8 : Int32) &&& 31)).toInt8.toInt32)) &&& (255 : Int32)) <<< ((8 : Int32) &&& 31))).toUInt32.toUInt16.toUInt32.toInt32)))]))
    refine Gl.pre (fun _ k => XS.sipush X4.here hx rfl (hb hby d9_35) k) ?_
    show Gl p.tables e below PP (T4.setTop (mkF m 38 #[.val (.ref a1), .val (.int (0 : Int32)), .val (.int (3 : Int32)), .val (.ref b1), .val (.int (0 : Int32)), .val (.ref bt3)] [(.int (255 : Int32)), (.int (nar .char (((((nar .byte ((c0 >>> ((0 : Int32) &&& 31)).toInt8.toInt32)) &&& (255 : Int32)) <<< ((0 : Int32) &&& 31)) ||| (((nar .byte ((c0 >>> ((8 : Int32) &&& 31)).toInt8.toInt32)) &&& (255 : Int32)) <<< ((8 : Int32) &&& 31))).toUInt32.toUInt16.toUInt32.toInt32)))]))
    refine Gl.pre (fun _ k => XS.icmpYes X4.here hx rfl (pc0 := 38) (pc' := 54) rfl (hb hby d9_38) rfl (tlt (show (255 : Int32) < (nar .char (((((nar .byte ((c0 >>> ((0 : Int32) &&& 31)).toInt8.toInt32)) &&& (255 : Int32)) <<< ((0 : Int32) &&& 31)) ||| (((nar .byte ((c0 >>> ((8 : Int32) &&& 31)).toInt8.toInt32)) &&& (255 : Int32)) <<< ((8 : Int32) &&& 31))).toUInt32.toUInt16.toUInt32.toInt32)) from (by rw [own_gc c0 hr0.1 hr0.2]; exact hc0))).2.2.1 (by decide) (by decide) k) ?_
    show Gl p.tables e below PP (T4.setTop (mkF m 54 #[.val (.ref a1), .val (.int (0 : Int32)), .val (.int (3 : Int32)), .val (.ref b1), .val (.int (0 : Int32)), .val (.ref bt3)] []))
    refine Gl.pre (fun _ k => XS.aload X4.here hx rfl (hb hby d9_54) rfl rfl k) ?_
    show Gl p.tables e below PP (T4.setTop (mkF m 56 #[.val (.ref a1), .val (.int (0 : Int32)), .val (.int (3 : Int32)), .val (.ref b1), .val (.int (0 : Int32)), .val (.ref bt3)] [(.ref bt3)]))
    rw [hPP]
    refine own_finA (Q := (Qcm3 Z a1 c0 c1 c2 h0 n0)) X4 hx hlk Bd.returns rfl rfl (hb hby d9_56) ?_ (by decide) (by decide)
    show Qcm3 Z a1 c0 c1 c2 h0 n0 _ T4.heap _
    rw [e4]
    exact ⟨bt3, [(nar .byte ((c0 >>> ((0 : Int32) &&& 31)).toInt8.toInt32)), (nar .byte ((c0 >>> ((8 : Int32) &&& 31)).toInt8.toInt32)), (nar .byte ((c1 >>> ((0 : Int32) &&& 31)).toInt8.toInt32)), (nar .byte ((c1 >>> ((8 : Int32) &&& 31)).toInt8.toInt32)), (nar .byte ((c2 >>> ((0 : Int32) &&& 31)).toInt8.toInt32)), (nar .byte ((c2 >>> ((8 : Int32) &&& 31)).toInt8.toInt32))], rfl, N4, sz_bt3, K3k, Or.inr rfl, V_bt3⟩
  · show Gl p.tables e below PP (T1.setTop (mkF m 9 #[.val (.ref a1), .val (.int (0 : Int32)), .val (.int (3 : Int32)), .val (.ref b1), .unset, .unset] [(.int (3 : Int32)), (.int (0 : Int32)), (.ref b1), (.int (0 : Int32)), (.ref a1)]))
    by_cases hc1 : (255 : Int32) < c1
    · show Gl p.tables e below PP (T1.setTop (mkF m 9 #[.val (.ref a1), .val (.int (0 : Int32)), .val (.int (3 : Int32)), .val (.ref b1), .unset, .unset] [(.int (3 : Int32)), (.int (0 : Int32)), (.ref b1), (.int (0 : Int32)), (.ref a1)]))
      obtain ⟨_, _, ⟨T5, L5, k5, n5⟩, -, X5, ⟨Lc5, hQ5, l5, y5, z5⟩, st5⟩ := Jvm.LawKit.callS X1 hx (y := (⟨"java/lang/StringUTF16", "compress", "([CI[BII)I"⟩ : MethodName)) hown (mvT hZ (hw _ (List.mem_of_getElem? (i := 59) rfl))) (mvT hZ (hw _ (List.mem_of_getElem? (i := 60) rfl))) (mvT hZ (hw _ (List.mem_of_getElem? (i := 57) rfl))) (mvT hZ (hw _ (List.mem_of_getElem? (i := 61) rfl))) (by decide) (backOf (W := 0) (rmcz3_1 l Z a0 hw [] a1 b1 c0 c1 c2 h1 n0 Z1 V_a1 V_b1 g_b1 own_ne_a1_b1 own_ne_b1_a1 hc0 hc1) hZ (hw _ (List.mem_of_getElem? (i := 61) rfl)) (hw _ (List.mem_of_getElem? (i := 57) rfl)) (by decide) (by decide)) (g := (mkF m 9 #[.val (.ref a1), .val (.int (0 : Int32)), .val (.int (3 : Int32)), .val (.ref b1), .unset, .unset] [(.int (3 : Int32)), (.int (0 : Int32)), (.ref b1), (.int (0 : Int32)), (.ref a1)])) rfl (by rw [hml]; rfl) (argsL := [(.ref a1), (.int (0 : Int32)), (.ref b1), (.int (0 : Int32)), (.int (3 : Int32))]) (rest := []) (lenOf pd_3 rfl) rfl (by show 2 * 0 + _ ≤ _; exact Nat.le_of_eq rfl) (hb hby d9_9) (fun _ _ => ⟨rfl, e1, (by decide : 1 + 0 ≤ _), (by decide : 3 + 0 ≤ _)⟩)
      dsimp only [Pt.U, Pt.locs, Pt.cells, Pt.slots] at X5 l5 y5 z5 st5 hQ5
      subst l5 y5 z5
      obtain ⟨rfl, N5q, K5, ys5, hys5, V5q⟩ := hQ5
      have N5 := Fr.app N0 N5q
      refine Gl.pre (fun _ k => st5 _ k) ?_
      have V_a1 := V_a1.keep K5 (ninS (own_ne_a1_b1) nin0)
      have O_ := O_.keep K5 (allS g_b1 all0)
      have Z5 : n0 ≤ T5.heap.size := Nat.le_trans Z1 K5.1
      have K5k := K1.trans K5 (allS (Or.inr sz_b1) all0)
      have V_b1 := V5q
      show Gl p.tables e below PP (T5.setTop (mkF m 12 #[.val (.ref a1), .val (.int (0 : Int32)), .val (.int (3 : Int32)), .val (.ref b1), .unset, .unset] [(.int (1 : Int32))]))
      refine Gl.pre (fun _ k => XS.istore X5.here hx rfl (hb hby d9_12) rfl (l' := #[.val (.ref a1), .val (.int (0 : Int32)), .val (.int (3 : Int32)), .val (.ref b1), .val (.int (1 : Int32)), .unset]) rfl k) ?_
      show Gl p.tables e below PP (T5.setTop (mkF m 14 #[.val (.ref a1), .val (.int (0 : Int32)), .val (.int (3 : Int32)), .val (.ref b1), .val (.int (1 : Int32)), .unset] []))
      refine Gl.pre (fun _ k => XS.iload X5.here hx rfl (hb hby d9_14) rfl k) ?_
      show Gl p.tables e below PP (T5.setTop (mkF m 16 #[.val (.ref a1), .val (.int (0 : Int32)), .val (.int (3 : Int32)), .val (.ref b1), .val (.int (1 : Int32)), .unset] [(.int (1 : Int32))]))
      refine Gl.pre (fun _ k => XS.iloadN X5.here hx rfl (hb hby d9_16) rfl k) ?_
      show Gl p.tables e below PP (T5.setTop (mkF m 17 #[.val (.ref a1), .val (.int (0 : Int32)), .val (.int (3 : Int32)), .val (.ref b1), .val (.int (1 : Int32)), .unset] [(.int (3 : Int32)), (.int (1 : Int32))]))
      refine Gl.pre (fun _ k => XS.icmpNo X5.here hx rfl (hb hby d9_17) rfl (feq (show ¬ ((1 : Int32) = (3 : Int32)) from (by decide))).1 k) ?_
      show Gl p.tables e below PP (T5.setTop (mkF m 20 #[.val (.ref a1), .val (.int (0 : Int32)), .val (.int (3 : Int32)), .val (.ref b1), .val (.int (1 : Int32)), .unset] []))
      refine Gl.pre (fun _ k => XS.aloadN X5.here hx rfl (hb hby d9_20) rfl rfl k) ?_
      show Gl p.tables e below PP (T5.setTop (mkF m 21 #[.val (.ref a1), .val (.int (0 : Int32)), .val (.int (3 : Int32)), .val (.ref b1), .val (.int (1 : Int32)), .unset] [(.ref a1)]))
      refine Gl.pre (fun _ k => XS.iloadN X5.here hx rfl (hb hby d9_21) rfl k) ?_
      show Gl p.tables e below PP (T5.setTop (mkF m 22 #[.val (.ref a1), .val (.int (0 : Int32)), .val (.int (3 : Int32)), .val (.ref b1), .val (.int (1 : Int32)), .unset] [(.int (0 : Int32)), (.ref a1)]))
      refine Gl.pre (fun _ k => XS.iloadN X5.here hx rfl (hb hby d9_22) rfl k) ?_
      show Gl p.tables e below PP (T5.setTop (mkF m 23 #[.val (.ref a1), .val (.int (0 : Int32)), .val (.int (3 : Int32)), .val (.ref b1), .val (.int (1 : Int32)), .unset] [(.int (3 : Int32)), (.int (0 : Int32)), (.ref a1)]))
      obtain ⟨_, _, ⟨T6, L6, k6, n6⟩, -, X6, ⟨Lc6, hQ6, l6, y6, z6⟩, st6⟩ := Jvm.LawKit.callS X5 hx (y := (⟨"java/lang/StringUTF16", "toBytes", "([CII)[B"⟩ : MethodName)) hown (mvT hZ (hw _ (List.mem_of_getElem? (i := 65) rfl))) (mvT hZ (hw _ (List.mem_of_getElem? (i := 66) rfl))) (mvT hZ (hw _ (List.mem_of_getElem? (i := 57) rfl))) (mvT hZ (hw _ (List.mem_of_getElem? (i := 67) rfl))) (by decide) (backOf (W := 0) (rmtb3 l Z a0 hw [] a1 c0 c1 c2 T5.heap n0 Z5 V_a1 SAD SHI SLO O_) hZ (hw _ (List.mem_of_getElem? (i := 67) rfl)) (hw _ (List.mem_of_getElem? (i := 57) rfl)) (by decide) (by decide)) (g := (mkF m 23 #[.val (.ref a1), .val (.int (0 : Int32)), .val (.int (3 : Int32)), .val (.ref b1), .val (.int (1 : Int32)), .unset] [(.int (3 : Int32)), (.int (0 : Int32)), (.ref a1)])) rfl (by rw [hml]; rfl) (argsL := [(.ref a1), (.int (0 : Int32)), (.int (3 : Int32))]) (rest := []) (lenOf pd_4 rfl) rfl (by show 2 * 0 + _ ≤ _; exact Nat.le_of_eq rfl) (hb hby d9_23) (fun _ _ => ⟨rfl, rfl, (by decide : 1 + 1 ≤ _), (by decide : 3 + 6 ≤ _)⟩)
      dsimp only [Pt.U, Pt.locs, Pt.cells, Pt.slots] at X6 l6 y6 z6 st6 hQ6
      subst l6 y6 z6
      obtain ⟨bt6, rfl, N6q, hz6, K6, V6q⟩ := hQ6
      have N6 := Fr.app N5 N6q
      refine Gl.pre (fun _ k => st6 _ k) ?_
      have own_ne_a1_bt6 : a1 ≠ bt6 := Nat.ne_of_lt (Nat.lt_of_lt_of_le V_a1.lt hz6)
      have own_ne_bt6_a1 := own_ne_a1_bt6.symm
      have own_ne_b1_bt6 : b1 ≠ bt6 := Nat.ne_of_lt (Nat.lt_of_lt_of_le V_b1.lt hz6)
      have own_ne_bt6_b1 := own_ne_b1_bt6.symm
      have g_bt6 : n0 ≤ bt6 := Nat.le_trans Z5 hz6
      have sz_bt6 : h0.size ≤ bt6 := Nat.le_trans K5k.1 hz6
      have V_a1 := V_a1.keep K6 nin0
      have O_ := O_.keep K6 all0
      have V_b1 := V_b1.keep K6 nin0
      have Z6 : n0 ≤ T6.heap.size := Nat.le_trans Z5 K6.1
      have K6k := K5k.trans K6 all0
      have V_bt6 := V6q
      show Gl p.tables e below PP (T6.setTop (mkF m 26 #[.val (.ref a1), .val (.int (0 : Int32)), .val (.int (3 : Int32)), .val (.ref b1), .val (.int (1 : Int32)), .unset] [(.ref bt6)]))
      refine Gl.pre (fun _ k => XS.astore X6.here hx rfl (hb hby d9_26) rfl rfl (l' := #[.val (.ref a1), .val (.int (0 : Int32)), .val (.int (3 : Int32)), .val (.ref b1), .val (.int (1 : Int32)), .val (.ref bt6)]) rfl k) ?_
      show Gl p.tables e below PP (T6.setTop (mkF m 28 #[.val (.ref a1), .val (.int (0 : Int32)), .val (.int (3 : Int32)), .val (.ref b1), .val (.int (1 : Int32)), .val (.ref bt6)] []))
      refine Gl.pre (fun _ k => XS.aload X6.here hx rfl (hb hby d9_28) rfl rfl k) ?_
      show Gl p.tables e below PP (T6.setTop (mkF m 30 #[.val (.ref a1), .val (.int (0 : Int32)), .val (.int (3 : Int32)), .val (.ref b1), .val (.int (1 : Int32)), .val (.ref bt6)] [(.ref bt6)]))
      refine Gl.pre (fun _ k => XS.iload X6.here hx rfl (hb hby d9_30) rfl k) ?_
      show Gl p.tables e below PP (T6.setTop (mkF m 32 #[.val (.ref a1), .val (.int (0 : Int32)), .val (.int (3 : Int32)), .val (.ref b1), .val (.int (1 : Int32)), .val (.ref bt6)] [(.int (1 : Int32)), (.ref bt6)]))
      obtain ⟨_, _, ⟨T7, L7, k7, n7⟩, -, X7, ⟨Lc7, hQ7, l7, y7, z7⟩, st7⟩ := Jvm.LawKit.callS X6 hx (y := (⟨"java/lang/StringUTF16", "getChar", "([BI)C"⟩ : MethodName)) hown (mvT hZ (hw _ (List.mem_of_getElem? (i := 81) rfl))) (mvT hZ (hw _ (List.mem_of_getElem? (i := 82) rfl))) (mvT hZ (hw _ (List.mem_of_getElem? (i := 57) rfl))) (mvT hZ (hw _ (List.mem_of_getElem? (i := 83) rfl))) (by decide) (backOf (W := 0) (rmgc3_1 l Z a0 hw [] bt6 (nar .byte ((c0 >>> ((0 : Int32) &&& 31)).toInt8.toInt32)) (nar .byte ((c0 >>> ((8 : Int32) &&& 31)).toInt8.toInt32)) (nar .byte ((c1 >>> ((0 : Int32) &&& 31)).toInt8.toInt32)) (nar .byte ((c1 >>> ((8 : Int32) &&& 31)).toInt8.toInt32)) (nar .byte ((c2 >>> ((0 : Int32) &&& 31)).toInt8.toInt32)) (nar .byte ((c2 >>> ((8 : Int32) &&& 31)).toInt8.toInt32)) T6.heap n0 Z6 V_bt6 SAD SHI SLO O_) hZ (hw _ (List.mem_of_getElem? (i := 83) rfl)) (hw _ (List.mem_of_getElem? (i := 57) rfl)) (by decide) (by decide)) (g := (mkF m 32 #[.val (.ref a1), .val (.int (0 : Int32)), .val (.int (3 : Int32)), .val (.ref b1), .val (.int (1 : Int32)), .val (.ref bt6)] [(.int (1 : Int32)), (.ref bt6)])) rfl (by rw [hml]; rfl) (argsL := [(.ref bt6), (.int (1 : Int32))]) (rest := []) (lenOf pd_5 rfl) rfl (by show 2 * 0 + _ ≤ _; exact Nat.le_of_eq rfl) (hb hby d9_32) (fun _ _ => ⟨rfl, rfl, (by decide : 2 + 0 ≤ _), (by decide : 9 + 0 ≤ _)⟩)
      dsimp only [Pt.U, Pt.locs, Pt.cells, Pt.slots] at X7 l7 y7 z7 st7 hQ7
      subst l7 y7 z7
      obtain ⟨rfl, N7q, e7⟩ := hQ7
      have N7 := Fr.app N6 N7q
      refine Gl.pre (fun _ k => st7 _ k) ?_
      show Gl p.tables e below PP (T7.setTop (mkF m 35 #[.val (.ref a1), .val (.int (0 : Int32)), .val (.int (3 : Int32)), .val (.ref b1), .val (.int (1 : Int32)), .val (.ref bt6)] [(.int (nar .char (((((nar .byte ((c1 >>> ((0 : Int32) &&& 31)).toInt8.toInt32)) &&& (255 : Int32)) <<< ((0 : Int32) &&& 31)) ||| (((nar .byte ((c1 >>> ((8 : Int32) &&& 31)).toInt8.toInt32)) &&& (255 : Int32)) <<< ((8 : Int32) &&& 31))).toUInt32.toUInt16.toUInt32.toInt32)))]))
      refine Gl.pre (fun _ k => XS.sipush X7.here hx rfl (hb hby d9_35) k) ?_
      show Gl p.tables e below PP (T7.setTop (mkF m 38 #[.val (.ref a1), .val (.int (0 : Int32)), .val (.int (3 : Int32)), .val (.ref b1), .val (.int (1 : Int32)), .val (.ref bt6)] [(.int (255 : Int32)), (.int (nar .char (((((nar .byte ((c1 >>> ((0 : Int32) &&& 31)).toInt8.toInt32)) &&& (255 : Int32)) <<< ((0 : Int32) &&& 31)) ||| (((nar .byte ((c1 >>> ((8 : Int32) &&& 31)).toInt8.toInt32)) &&& (255 : Int32)) <<< ((8 : Int32) &&& 31))).toUInt32.toUInt16.toUInt32.toInt32)))]))
      refine Gl.pre (fun _ k => XS.icmpYes X7.here hx rfl (pc0 := 38) (pc' := 54) rfl (hb hby d9_38) rfl (tlt (show (255 : Int32) < (nar .char (((((nar .byte ((c1 >>> ((0 : Int32) &&& 31)).toInt8.toInt32)) &&& (255 : Int32)) <<< ((0 : Int32) &&& 31)) ||| (((nar .byte ((c1 >>> ((8 : Int32) &&& 31)).toInt8.toInt32)) &&& (255 : Int32)) <<< ((8 : Int32) &&& 31))).toUInt32.toUInt16.toUInt32.toInt32)) from (by rw [own_gc c1 hr1.1 hr1.2]; exact hc1))).2.2.1 (by decide) (by decide) k) ?_
      show Gl p.tables e below PP (T7.setTop (mkF m 54 #[.val (.ref a1), .val (.int (0 : Int32)), .val (.int (3 : Int32)), .val (.ref b1), .val (.int (1 : Int32)), .val (.ref bt6)] []))
      refine Gl.pre (fun _ k => XS.aload X7.here hx rfl (hb hby d9_54) rfl rfl k) ?_
      show Gl p.tables e below PP (T7.setTop (mkF m 56 #[.val (.ref a1), .val (.int (0 : Int32)), .val (.int (3 : Int32)), .val (.ref b1), .val (.int (1 : Int32)), .val (.ref bt6)] [(.ref bt6)]))
      rw [hPP]
      refine own_finA (Q := (Qcm3 Z a1 c0 c1 c2 h0 n0)) X7 hx hlk Bd.returns rfl rfl (hb hby d9_56) ?_ (by decide) (by decide)
      show Qcm3 Z a1 c0 c1 c2 h0 n0 _ T7.heap _
      rw [e7]
      exact ⟨bt6, [(nar .byte ((c0 >>> ((0 : Int32) &&& 31)).toInt8.toInt32)), (nar .byte ((c0 >>> ((8 : Int32) &&& 31)).toInt8.toInt32)), (nar .byte ((c1 >>> ((0 : Int32) &&& 31)).toInt8.toInt32)), (nar .byte ((c1 >>> ((8 : Int32) &&& 31)).toInt8.toInt32)), (nar .byte ((c2 >>> ((0 : Int32) &&& 31)).toInt8.toInt32)), (nar .byte ((c2 >>> ((8 : Int32) &&& 31)).toInt8.toInt32))], rfl, N7, sz_bt6, K6k, Or.inr rfl, V_bt6⟩
    · show Gl p.tables e below PP (T1.setTop (mkF m 9 #[.val (.ref a1), .val (.int (0 : Int32)), .val (.int (3 : Int32)), .val (.ref b1), .unset, .unset] [(.int (3 : Int32)), (.int (0 : Int32)), (.ref b1), (.int (0 : Int32)), (.ref a1)]))
      by_cases hc2 : (255 : Int32) < c2
      · show Gl p.tables e below PP (T1.setTop (mkF m 9 #[.val (.ref a1), .val (.int (0 : Int32)), .val (.int (3 : Int32)), .val (.ref b1), .unset, .unset] [(.int (3 : Int32)), (.int (0 : Int32)), (.ref b1), (.int (0 : Int32)), (.ref a1)]))
        obtain ⟨_, _, ⟨T8, L8, k8, n8⟩, -, X8, ⟨Lc8, hQ8, l8, y8, z8⟩, st8⟩ := Jvm.LawKit.callS X1 hx (y := (⟨"java/lang/StringUTF16", "compress", "([CI[BII)I"⟩ : MethodName)) hown (mvT hZ (hw _ (List.mem_of_getElem? (i := 59) rfl))) (mvT hZ (hw _ (List.mem_of_getElem? (i := 60) rfl))) (mvT hZ (hw _ (List.mem_of_getElem? (i := 57) rfl))) (mvT hZ (hw _ (List.mem_of_getElem? (i := 61) rfl))) (by decide) (backOf (W := 0) (rmcz3_2 l Z a0 hw [] a1 b1 c0 c1 c2 h1 n0 Z1 V_a1 V_b1 g_b1 own_ne_a1_b1 own_ne_b1_a1 hc0 hc1 hc2) hZ (hw _ (List.mem_of_getElem? (i := 61) rfl)) (hw _ (List.mem_of_getElem? (i := 57) rfl)) (by decide) (by decide)) (g := (mkF m 9 #[.val (.ref a1), .val (.int (0 : Int32)), .val (.int (3 : Int32)), .val (.ref b1), .unset, .unset] [(.int (3 : Int32)), (.int (0 : Int32)), (.ref b1), (.int (0 : Int32)), (.ref a1)])) rfl (by rw [hml]; rfl) (argsL := [(.ref a1), (.int (0 : Int32)), (.ref b1), (.int (0 : Int32)), (.int (3 : Int32))]) (rest := []) (lenOf pd_3 rfl) rfl (by show 2 * 0 + _ ≤ _; exact Nat.le_of_eq rfl) (hb hby d9_9) (fun _ _ => ⟨rfl, e1, (by decide : 1 + 0 ≤ _), (by decide : 3 + 0 ≤ _)⟩)
        dsimp only [Pt.U, Pt.locs, Pt.cells, Pt.slots] at X8 l8 y8 z8 st8 hQ8
        subst l8 y8 z8
        obtain ⟨rfl, N8q, K8, ys8, hys8, V8q⟩ := hQ8
        have N8 := Fr.app N0 N8q
        refine Gl.pre (fun _ k => st8 _ k) ?_
        have V_a1 := V_a1.keep K8 (ninS (own_ne_a1_b1) nin0)
        have O_ := O_.keep K8 (allS g_b1 all0)
        have Z8 : n0 ≤ T8.heap.size := Nat.le_trans Z1 K8.1
        have K8k := K1.trans K8 (allS (Or.inr sz_b1) all0)
        have V_b1 := V8q
        show Gl p.tables e below PP (T8.setTop (mkF m 12 #[.val (.ref a1), .val (.int (0 : Int32)), .val (.int (3 : Int32)), .val (.ref b1), .unset, .unset] [(.int (2 : Int32))]))
        refine Gl.pre (fun _ k => XS.istore X8.here hx rfl (hb hby d9_12) rfl (l' := #[.val (.ref a1), .val (.int (0 : Int32)), .val (.int (3 : Int32)), .val (.ref b1), .val (.int (2 : Int32)), .unset]) rfl k) ?_
        show Gl p.tables e below PP (T8.setTop (mkF m 14 #[.val (.ref a1), .val (.int (0 : Int32)), .val (.int (3 : Int32)), .val (.ref b1), .val (.int (2 : Int32)), .unset] []))
        refine Gl.pre (fun _ k => XS.iload X8.here hx rfl (hb hby d9_14) rfl k) ?_
        show Gl p.tables e below PP (T8.setTop (mkF m 16 #[.val (.ref a1), .val (.int (0 : Int32)), .val (.int (3 : Int32)), .val (.ref b1), .val (.int (2 : Int32)), .unset] [(.int (2 : Int32))]))
        refine Gl.pre (fun _ k => XS.iloadN X8.here hx rfl (hb hby d9_16) rfl k) ?_
        show Gl p.tables e below PP (T8.setTop (mkF m 17 #[.val (.ref a1), .val (.int (0 : Int32)), .val (.int (3 : Int32)), .val (.ref b1), .val (.int (2 : Int32)), .unset] [(.int (3 : Int32)), (.int (2 : Int32))]))
        refine Gl.pre (fun _ k => XS.icmpNo X8.here hx rfl (hb hby d9_17) rfl (feq (show ¬ ((2 : Int32) = (3 : Int32)) from (by decide))).1 k) ?_
        show Gl p.tables e below PP (T8.setTop (mkF m 20 #[.val (.ref a1), .val (.int (0 : Int32)), .val (.int (3 : Int32)), .val (.ref b1), .val (.int (2 : Int32)), .unset] []))
        refine Gl.pre (fun _ k => XS.aloadN X8.here hx rfl (hb hby d9_20) rfl rfl k) ?_
        show Gl p.tables e below PP (T8.setTop (mkF m 21 #[.val (.ref a1), .val (.int (0 : Int32)), .val (.int (3 : Int32)), .val (.ref b1), .val (.int (2 : Int32)), .unset] [(.ref a1)]))
        refine Gl.pre (fun _ k => XS.iloadN X8.here hx rfl (hb hby d9_21) rfl k) ?_
        show Gl p.tables e below PP (T8.setTop (mkF m 22 #[.val (.ref a1), .val (.int (0 : Int32)), .val (.int (3 : Int32)), .val (.ref b1), .val (.int (2 : Int32)), .unset] [(.int (0 : Int32)), (.ref a1)]))
        refine Gl.pre (fun _ k => XS.iloadN X8.here hx rfl (hb hby d9_22) rfl k) ?_
        show Gl p.tables e below PP (T8.setTop (mkF m 23 #[.val (.ref a1), .val (.int (0 : Int32)), .val (.int (3 : Int32)), .val (.ref b1), .val (.int (2 : Int32)), .unset] [(.int (3 : Int32)), (.int (0 : Int32)), (.ref a1)]))
        obtain ⟨_, _, ⟨T9, L9, k9, n9⟩, -, X9, ⟨Lc9, hQ9, l9, y9, z9⟩, st9⟩ := Jvm.LawKit.callS X8 hx (y := (⟨"java/lang/StringUTF16", "toBytes", "([CII)[B"⟩ : MethodName)) hown (mvT hZ (hw _ (List.mem_of_getElem? (i := 65) rfl))) (mvT hZ (hw _ (List.mem_of_getElem? (i := 66) rfl))) (mvT hZ (hw _ (List.mem_of_getElem? (i := 57) rfl))) (mvT hZ (hw _ (List.mem_of_getElem? (i := 67) rfl))) (by decide) (backOf (W := 0) (rmtb3 l Z a0 hw [] a1 c0 c1 c2 T8.heap n0 Z8 V_a1 SAD SHI SLO O_) hZ (hw _ (List.mem_of_getElem? (i := 67) rfl)) (hw _ (List.mem_of_getElem? (i := 57) rfl)) (by decide) (by decide)) (g := (mkF m 23 #[.val (.ref a1), .val (.int (0 : Int32)), .val (.int (3 : Int32)), .val (.ref b1), .val (.int (2 : Int32)), .unset] [(.int (3 : Int32)), (.int (0 : Int32)), (.ref a1)])) rfl (by rw [hml]; rfl) (argsL := [(.ref a1), (.int (0 : Int32)), (.int (3 : Int32))]) (rest := []) (lenOf pd_4 rfl) rfl (by show 2 * 0 + _ ≤ _; exact Nat.le_of_eq rfl) (hb hby d9_23) (fun _ _ => ⟨rfl, rfl, (by decide : 1 + 1 ≤ _), (by decide : 3 + 6 ≤ _)⟩)
        dsimp only [Pt.U, Pt.locs, Pt.cells, Pt.slots] at X9 l9 y9 z9 st9 hQ9
        subst l9 y9 z9
        obtain ⟨bt9, rfl, N9q, hz9, K9, V9q⟩ := hQ9
        have N9 := Fr.app N8 N9q
        refine Gl.pre (fun _ k => st9 _ k) ?_
        have own_ne_a1_bt9 : a1 ≠ bt9 := Nat.ne_of_lt (Nat.lt_of_lt_of_le V_a1.lt hz9)
        have own_ne_bt9_a1 := own_ne_a1_bt9.symm
        have own_ne_b1_bt9 : b1 ≠ bt9 := Nat.ne_of_lt (Nat.lt_of_lt_of_le V_b1.lt hz9)
        have own_ne_bt9_b1 := own_ne_b1_bt9.symm
        have g_bt9 : n0 ≤ bt9 := Nat.le_trans Z8 hz9
        have sz_bt9 : h0.size ≤ bt9 := Nat.le_trans K8k.1 hz9
        have V_a1 := V_a1.keep K9 nin0
        have O_ := O_.keep K9 all0
        have V_b1 := V_b1.keep K9 nin0
        have Z9 : n0 ≤ T9.heap.size := Nat.le_trans Z8 K9.1
        have K9k := K8k.trans K9 all0
        have V_bt9 := V9q
        show Gl p.tables e below PP (T9.setTop (mkF m 26 #[.val (.ref a1), .val (.int (0 : Int32)), .val (.int (3 : Int32)), .val (.ref b1), .val (.int (2 : Int32)), .unset] [(.ref bt9)]))
        refine Gl.pre (fun _ k => XS.astore X9.here hx rfl (hb hby d9_26) rfl rfl (l' := #[.val (.ref a1), .val (.int (0 : Int32)), .val (.int (3 : Int32)), .val (.ref b1), .val (.int (2 : Int32)), .val (.ref bt9)]) rfl k) ?_
        show Gl p.tables e below PP (T9.setTop (mkF m 28 #[.val (.ref a1), .val (.int (0 : Int32)), .val (.int (3 : Int32)), .val (.ref b1), .val (.int (2 : Int32)), .val (.ref bt9)] []))
        refine Gl.pre (fun _ k => XS.aload X9.here hx rfl (hb hby d9_28) rfl rfl k) ?_
        show Gl p.tables e below PP (T9.setTop (mkF m 30 #[.val (.ref a1), .val (.int (0 : Int32)), .val (.int (3 : Int32)), .val (.ref b1), .val (.int (2 : Int32)), .val (.ref bt9)] [(.ref bt9)]))
        refine Gl.pre (fun _ k => XS.iload X9.here hx rfl (hb hby d9_30) rfl k) ?_
        show Gl p.tables e below PP (T9.setTop (mkF m 32 #[.val (.ref a1), .val (.int (0 : Int32)), .val (.int (3 : Int32)), .val (.ref b1), .val (.int (2 : Int32)), .val (.ref bt9)] [(.int (2 : Int32)), (.ref bt9)]))
        obtain ⟨_, _, ⟨T10, L10, k10, n10⟩, -, X10, ⟨Lc10, hQ10, l10, y10, z10⟩, st10⟩ := Jvm.LawKit.callS X9 hx (y := (⟨"java/lang/StringUTF16", "getChar", "([BI)C"⟩ : MethodName)) hown (mvT hZ (hw _ (List.mem_of_getElem? (i := 81) rfl))) (mvT hZ (hw _ (List.mem_of_getElem? (i := 82) rfl))) (mvT hZ (hw _ (List.mem_of_getElem? (i := 57) rfl))) (mvT hZ (hw _ (List.mem_of_getElem? (i := 83) rfl))) (by decide) (backOf (W := 0) (rmgc3_2 l Z a0 hw [] bt9 (nar .byte ((c0 >>> ((0 : Int32) &&& 31)).toInt8.toInt32)) (nar .byte ((c0 >>> ((8 : Int32) &&& 31)).toInt8.toInt32)) (nar .byte ((c1 >>> ((0 : Int32) &&& 31)).toInt8.toInt32)) (nar .byte ((c1 >>> ((8 : Int32) &&& 31)).toInt8.toInt32)) (nar .byte ((c2 >>> ((0 : Int32) &&& 31)).toInt8.toInt32)) (nar .byte ((c2 >>> ((8 : Int32) &&& 31)).toInt8.toInt32)) T9.heap n0 Z9 V_bt9 SAD SHI SLO O_) hZ (hw _ (List.mem_of_getElem? (i := 83) rfl)) (hw _ (List.mem_of_getElem? (i := 57) rfl)) (by decide) (by decide)) (g := (mkF m 32 #[.val (.ref a1), .val (.int (0 : Int32)), .val (.int (3 : Int32)), .val (.ref b1), .val (.int (2 : Int32)), .val (.ref bt9)] [(.int (2 : Int32)), (.ref bt9)])) rfl (by rw [hml]; rfl) (argsL := [(.ref bt9), (.int (2 : Int32))]) (rest := []) (lenOf pd_5 rfl) rfl (by show 2 * 0 + _ ≤ _; exact Nat.le_of_eq rfl) (hb hby d9_32) (fun _ _ => ⟨rfl, rfl, (by decide : 2 + 0 ≤ _), (by decide : 9 + 0 ≤ _)⟩)
        dsimp only [Pt.U, Pt.locs, Pt.cells, Pt.slots] at X10 l10 y10 z10 st10 hQ10
        subst l10 y10 z10
        obtain ⟨rfl, N10q, e10⟩ := hQ10
        have N10 := Fr.app N9 N10q
        refine Gl.pre (fun _ k => st10 _ k) ?_
        show Gl p.tables e below PP (T10.setTop (mkF m 35 #[.val (.ref a1), .val (.int (0 : Int32)), .val (.int (3 : Int32)), .val (.ref b1), .val (.int (2 : Int32)), .val (.ref bt9)] [(.int (nar .char (((((nar .byte ((c2 >>> ((0 : Int32) &&& 31)).toInt8.toInt32)) &&& (255 : Int32)) <<< ((0 : Int32) &&& 31)) ||| (((nar .byte ((c2 >>> ((8 : Int32) &&& 31)).toInt8.toInt32)) &&& (255 : Int32)) <<< ((8 : Int32) &&& 31))).toUInt32.toUInt16.toUInt32.toInt32)))]))
        refine Gl.pre (fun _ k => XS.sipush X10.here hx rfl (hb hby d9_35) k) ?_
        show Gl p.tables e below PP (T10.setTop (mkF m 38 #[.val (.ref a1), .val (.int (0 : Int32)), .val (.int (3 : Int32)), .val (.ref b1), .val (.int (2 : Int32)), .val (.ref bt9)] [(.int (255 : Int32)), (.int (nar .char (((((nar .byte ((c2 >>> ((0 : Int32) &&& 31)).toInt8.toInt32)) &&& (255 : Int32)) <<< ((0 : Int32) &&& 31)) ||| (((nar .byte ((c2 >>> ((8 : Int32) &&& 31)).toInt8.toInt32)) &&& (255 : Int32)) <<< ((8 : Int32) &&& 31))).toUInt32.toUInt16.toUInt32.toInt32)))]))
        refine Gl.pre (fun _ k => XS.icmpYes X10.here hx rfl (pc0 := 38) (pc' := 54) rfl (hb hby d9_38) rfl (tlt (show (255 : Int32) < (nar .char (((((nar .byte ((c2 >>> ((0 : Int32) &&& 31)).toInt8.toInt32)) &&& (255 : Int32)) <<< ((0 : Int32) &&& 31)) ||| (((nar .byte ((c2 >>> ((8 : Int32) &&& 31)).toInt8.toInt32)) &&& (255 : Int32)) <<< ((8 : Int32) &&& 31))).toUInt32.toUInt16.toUInt32.toInt32)) from (by rw [own_gc c2 hr2.1 hr2.2]; exact hc2))).2.2.1 (by decide) (by decide) k) ?_
        show Gl p.tables e below PP (T10.setTop (mkF m 54 #[.val (.ref a1), .val (.int (0 : Int32)), .val (.int (3 : Int32)), .val (.ref b1), .val (.int (2 : Int32)), .val (.ref bt9)] []))
        refine Gl.pre (fun _ k => XS.aload X10.here hx rfl (hb hby d9_54) rfl rfl k) ?_
        show Gl p.tables e below PP (T10.setTop (mkF m 56 #[.val (.ref a1), .val (.int (0 : Int32)), .val (.int (3 : Int32)), .val (.ref b1), .val (.int (2 : Int32)), .val (.ref bt9)] [(.ref bt9)]))
        rw [hPP]
        refine own_finA (Q := (Qcm3 Z a1 c0 c1 c2 h0 n0)) X10 hx hlk Bd.returns rfl rfl (hb hby d9_56) ?_ (by decide) (by decide)
        show Qcm3 Z a1 c0 c1 c2 h0 n0 _ T10.heap _
        rw [e10]
        exact ⟨bt9, [(nar .byte ((c0 >>> ((0 : Int32) &&& 31)).toInt8.toInt32)), (nar .byte ((c0 >>> ((8 : Int32) &&& 31)).toInt8.toInt32)), (nar .byte ((c1 >>> ((0 : Int32) &&& 31)).toInt8.toInt32)), (nar .byte ((c1 >>> ((8 : Int32) &&& 31)).toInt8.toInt32)), (nar .byte ((c2 >>> ((0 : Int32) &&& 31)).toInt8.toInt32)), (nar .byte ((c2 >>> ((8 : Int32) &&& 31)).toInt8.toInt32))], rfl, N10, sz_bt9, K9k, Or.inr rfl, V_bt9⟩
      · show Gl p.tables e below PP (T1.setTop (mkF m 9 #[.val (.ref a1), .val (.int (0 : Int32)), .val (.int (3 : Int32)), .val (.ref b1), .unset, .unset] [(.int (3 : Int32)), (.int (0 : Int32)), (.ref b1), (.int (0 : Int32)), (.ref a1)]))
        obtain ⟨_, _, ⟨T11, L11, k11, n11⟩, -, X11, ⟨Lc11, hQ11, l11, y11, z11⟩, st11⟩ := Jvm.LawKit.callS X1 hx (y := (⟨"java/lang/StringUTF16", "compress", "([CI[BII)I"⟩ : MethodName)) hown (mvT hZ (hw _ (List.mem_of_getElem? (i := 59) rfl))) (mvT hZ (hw _ (List.mem_of_getElem? (i := 60) rfl))) (mvT hZ (hw _ (List.mem_of_getElem? (i := 57) rfl))) (mvT hZ (hw _ (List.mem_of_getElem? (i := 61) rfl))) (by decide) (backOf (W := 0) (rmcz3_3 l Z a0 hw [] a1 b1 c0 c1 c2 h1 n0 Z1 V_a1 V_b1 g_b1 own_ne_a1_b1 own_ne_b1_a1 hc0 hc1 hc2) hZ (hw _ (List.mem_of_getElem? (i := 61) rfl)) (hw _ (List.mem_of_getElem? (i := 57) rfl)) (by decide) (by decide)) (g := (mkF m 9 #[.val (.ref a1), .val (.int (0 : Int32)), .val (.int (3 : Int32)), .val (.ref b1), .unset, .unset] [(.int (3 : Int32)), (.int (0 : Int32)), (.ref b1), (.int (0 : Int32)), (.ref a1)])) rfl (by rw [hml]; rfl) (argsL := [(.ref a1), (.int (0 : Int32)), (.ref b1), (.int (0 : Int32)), (.int (3 : Int32))]) (rest := []) (lenOf pd_3 rfl) rfl (by show 2 * 0 + _ ≤ _; exact Nat.le_of_eq rfl) (hb hby d9_9) (fun _ _ => ⟨rfl, e1, (by decide : 1 + 0 ≤ _), (by decide : 3 + 0 ≤ _)⟩)
        dsimp only [Pt.U, Pt.locs, Pt.cells, Pt.slots] at X11 l11 y11 z11 st11 hQ11
        subst l11 y11 z11
        obtain ⟨rfl, N11q, K11, ys11, hys11, V11q⟩ := hQ11
        have N11 := Fr.app N0 N11q
        refine Gl.pre (fun _ k => st11 _ k) ?_
        have V_a1 := V_a1.keep K11 (ninS (own_ne_a1_b1) nin0)
        have O_ := O_.keep K11 (allS g_b1 all0)
        have Z11 : n0 ≤ T11.heap.size := Nat.le_trans Z1 K11.1
        have K11k := K1.trans K11 (allS (Or.inr sz_b1) all0)
        have V_b1 := V11q
        show Gl p.tables e below PP (T11.setTop (mkF m 12 #[.val (.ref a1), .val (.int (0 : Int32)), .val (.int (3 : Int32)), .val (.ref b1), .unset, .unset] [(.int (3 : Int32))]))
        refine Gl.pre (fun _ k => XS.istore X11.here hx rfl (hb hby d9_12) rfl (l' := #[.val (.ref a1), .val (.int (0 : Int32)), .val (.int (3 : Int32)), .val (.ref b1), .val (.int (3 : Int32)), .unset]) rfl k) ?_
        show Gl p.tables e below PP (T11.setTop (mkF m 14 #[.val (.ref a1), .val (.int (0 : Int32)), .val (.int (3 : Int32)), .val (.ref b1), .val (.int (3 : Int32)), .unset] []))
        refine Gl.pre (fun _ k => XS.iload X11.here hx rfl (hb hby d9_14) rfl k) ?_
        show Gl p.tables e below PP (T11.setTop (mkF m 16 #[.val (.ref a1), .val (.int (0 : Int32)), .val (.int (3 : Int32)), .val (.ref b1), .val (.int (3 : Int32)), .unset] [(.int (3 : Int32))]))
        refine Gl.pre (fun _ k => XS.iloadN X11.here hx rfl (hb hby d9_16) rfl k) ?_
        show Gl p.tables e below PP (T11.setTop (mkF m 17 #[.val (.ref a1), .val (.int (0 : Int32)), .val (.int (3 : Int32)), .val (.ref b1), .val (.int (3 : Int32)), .unset] [(.int (3 : Int32)), (.int (3 : Int32))]))
        refine Gl.pre (fun _ k => XS.icmpYes X11.here hx rfl (pc0 := 17) (pc' := 57) rfl (hb hby d9_17) rfl (teq (show (3 : Int32) = (3 : Int32) from (by decide))).1 (by decide) (by decide) k) ?_
        show Gl p.tables e below PP (T11.setTop (mkF m 57 #[.val (.ref a1), .val (.int (0 : Int32)), .val (.int (3 : Int32)), .val (.ref b1), .val (.int (3 : Int32)), .unset] []))
        refine Gl.pre (fun _ k => XS.aloadN X11.here hx rfl (hb hby d9_57) rfl rfl k) ?_
        show Gl p.tables e below PP (T11.setTop (mkF m 58 #[.val (.ref a1), .val (.int (0 : Int32)), .val (.int (3 : Int32)), .val (.ref b1), .val (.int (3 : Int32)), .unset] [(.ref b1)]))
        rw [hPP]
        refine own_finA (Q := (Qcm3 Z a1 c0 c1 c2 h0 n0)) X11 hx hlk Bd.returns rfl rfl (hb hby d9_58) ?_ (by decide) (by decide)
        show Qcm3 Z a1 c0 c1 c2 h0 n0 _ T11.heap _
        exact ⟨b1, ys11, rfl, N11, sz_b1, K11k, Or.inl hys11, V_b1⟩
theorem d3_0 : decode jdk_42_method_149_code 0 = .ok (.aload_n 0, 1) := by decide +kernel
theorem d3_1 : decode jdk_42_method_149_code 1 = .ok (.invokespecial 1, 3) := by decide +kernel
theorem d3_4 : decode jdk_42_method_149_code 4 = .ok (.iload_n 3, 1) := by decide +kernel
theorem d3_5 : decode jdk_42_method_149_code 5 = .ok (.ifCond .ne 22, 3) := by decide +kernel
theorem d3_8 : decode jdk_42_method_149_code 8 = .ok (.aload_n 0, 1) := by decide +kernel
theorem d3_9 : decode jdk_42_method_149_code 9 = .ok (.ldc 7, 2) := by decide +kernel
theorem d3_11 : decode jdk_42_method_149_code 11 = .ok (.getfield 9, 3) := by decide +kernel
theorem d3_14 : decode jdk_42_method_149_code 14 = .ok (.putfield 9, 3) := by decide +kernel
theorem d3_17 : decode jdk_42_method_149_code 17 = .ok (.aload_n 0, 1) := by decide +kernel
theorem d3_18 : decode jdk_42_method_149_code 18 = .ok (.ldc 7, 2) := by decide +kernel
theorem d3_20 : decode jdk_42_method_149_code 20 = .ok (.getfield 15, 3) := by decide +kernel
theorem d3_23 : decode jdk_42_method_149_code 23 = .ok (.putfield 15, 3) := by decide +kernel
theorem d3_26 : decode jdk_42_method_149_code 26 = .ok (.return_, 1) := by decide +kernel
theorem d3_27 : decode jdk_42_method_149_code 27 = .ok (.getstatic 38, 3) := by decide +kernel
theorem d3_30 : decode jdk_42_method_149_code 30 = .ok (.ifCond .eq 28, 3) := by decide +kernel
theorem d3_33 : decode jdk_42_method_149_code 33 = .ok (.aload_n 1, 1) := by decide +kernel
theorem d3_34 : decode jdk_42_method_149_code 34 = .ok (.iload_n 2, 1) := by decide +kernel
theorem d3_35 : decode jdk_42_method_149_code 35 = .ok (.iload_n 3, 1) := by decide +kernel
theorem d3_36 : decode jdk_42_method_149_code 36 = .ok (.invokestatic 177, 3) := by decide +kernel
theorem d3_39 : decode jdk_42_method_149_code 39 = .ok (.astore 5, 2) := by decide +kernel
theorem d3_41 : decode jdk_42_method_149_code 41 = .ok (.aload_n 0, 1) := by decide +kernel
theorem d3_42 : decode jdk_42_method_149_code 42 = .ok (.aload 5, 2) := by decide +kernel
theorem d3_44 : decode jdk_42_method_149_code 44 = .ok (.iload_n 3, 1) := by decide +kernel
theorem d3_45 : decode jdk_42_method_149_code 45 = .ok (.invokestatic 47, 3) := by decide +kernel
theorem d3_48 : decode jdk_42_method_149_code 48 = .ok (.putfield 15, 3) := by decide +kernel
theorem d3_51 : decode jdk_42_method_149_code 51 = .ok (.aload_n 0, 1) := by decide +kernel
theorem d3_52 : decode jdk_42_method_149_code 52 = .ok (.aload 5, 2) := by decide +kernel
theorem d3_54 : decode jdk_42_method_149_code 54 = .ok (.putfield 9, 3) := by decide +kernel
theorem d3_57 : decode jdk_42_method_149_code 57 = .ok (.return_, 1) := by decide +kernel
theorem d3_58 : decode jdk_42_method_149_code 58 = .ok (.aload_n 0, 1) := by decide +kernel
theorem d3_59 : decode jdk_42_method_149_code 59 = .ok (.iconst 1, 1) := by decide +kernel
theorem d3_60 : decode jdk_42_method_149_code 60 = .ok (.putfield 15, 3) := by decide +kernel
theorem d3_63 : decode jdk_42_method_149_code 63 = .ok (.aload_n 0, 1) := by decide +kernel
theorem d3_64 : decode jdk_42_method_149_code 64 = .ok (.aload_n 1, 1) := by decide +kernel
theorem d3_65 : decode jdk_42_method_149_code 65 = .ok (.iload_n 2, 1) := by decide +kernel
theorem d3_66 : decode jdk_42_method_149_code 66 = .ok (.iload_n 3, 1) := by decide +kernel
theorem d3_67 : decode jdk_42_method_149_code 67 = .ok (.invokestatic 180, 3) := by decide +kernel
theorem d3_70 : decode jdk_42_method_149_code 70 = .ok (.putfield 9, 3) := by decide +kernel
theorem d3_73 : decode jdk_42_method_149_code 73 = .ok (.return_, 1) := by decide +kernel
theorem pn_3 : plainName "java/lang/String" = true := by first | (simp [plainName, overriddenIn]; done) | decide +kernel
theorem ef_si1 (m : MethodId) (a1 : Addr) (a2 : Addr) (cs : Int32) (c0 : Int32) : entryFrame m #[(.ref a1), (.ref a2), (.int (0 : Int32)), (.int (1 : Int32)), .null] 6 = mkF m 0 #[.val (.ref a1), .val (.ref a2), .val (.int (0 : Int32)), .val (.int (1 : Int32)), .val .null, .unset] [] := by first | (simp [entryFrame, mkF, argsToLocals, Value.category]; done) | rfl
def Qsi1 (Z : State) (a1 : Addr) (a2 : Addr) (cs : Int32) (c0 : Int32) (h0 : Heap) (n0 : Nat) (v : Option Value) (h : Heap) (L : List Loc) : Prop := v = none ∧ Fr n0 L ∧ Keep h0 h [a1] ∧ ∃ (vb : Addr) (ys : List Int32) (co : Int32), (co = 0 ∨ co = 1) ∧ (ys.length.toInt32 >>> (co &&& 31)) = (1 : Int32) ∧ vb ≠ a1 ∧ Fld Z h a1 "java/lang/String" "value" "[B" (.ref vb) ∧ Fld Z h a1 "java/lang/String" "coder" "B" (.int co) ∧ Bal Z h vb .byte ys
set_option maxRecDepth 65536 in
set_option maxHeartbeats 40000000 in
theorem rmsi1 (l : Launch) (Z : State) (a0 : Array Value) (hw : ∀ d ∈ tables_1, d.before a0 Z = true) (ws : List Jvm.Cond) (a1 : Addr) (a2 : Addr) (cs : Int32) (c0 : Int32) (h0 : Heap) (n0 : Nat) (Z0 : n0 ≤ h0.size) (E_a1 : Exa Z h0 a1 "java/lang/String") (F_value_a1 : Fld Z h0 a1 "java/lang/String" "value" "[B" .null) (F_coder_a1 : Fld Z h0 a1 "java/lang/String" "coder" "B" (.int (0 : Int32))) (g_a1 : n0 ≤ a1) (V_a2 : Bal Z h0 a2 .char [c0]) (own_ne_a1_a2 : a1 ≠ a2) (own_ne_a2_a1 : a2 ≠ a1) (hr0 : 0 ≤ c0.toInt ∧ c0.toInt < 65536) (SBC : Sta Z Z.heap "java/lang/String" "COMPACT_STRINGS" "Z" (.int cs)) (hcs : ¬ (cs = (0 : Int32))) (SAD : Sta Z Z.heap "java/lang/StringUTF16" "$assertionsDisabled" "Z" (.int (1 : Int32))) (SHI : Sta Z Z.heap "java/lang/StringUTF16" "HI_BYTE_SHIFT" "I" (.int (0 : Int32))) (SLO : Sta Z Z.heap "java/lang/StringUTF16" "LO_BYTE_SHIFT" "I" (.int (8 : Int32))) (O_ : Old Z n0 h0) :
    MetFree l (⟨"java/lang/String", "<init>", "([CIILjava/lang/Void;)V"⟩ : MethodName) (head1 (Jvm.Cond.code (⟨"java/lang/String", "<init>", "([CIILjava/lang/Void;)V"⟩ : MethodName) jdk_42_method_149_code 6 none :: ws) ({ frames := 4, cells := 2, slots := 3, locals := 57 } : Room)) (fun a U => a = #[(.ref a1), (.ref a2), (.int (0 : Int32)), (.int (1 : Int32)), .null] ∧ Z.Warmed39 U.vm ∧ U.heap = h0) (fun _ _ _ _ _ => True) (fun _ U o U' => ∃ v L, o = .returned v ∧ Qsi1 Z a1 a2 cs c0 h0 n0 v U'.heap L ∧ FrameEnd U o U' L ({ frames := 4, cells := 2, slots := 3, locals := 57 } : Room).cells ({ frames := 4, cells := 2, slots := 3, locals := 57 } : Room).slots) := by
  refine MetFree.of_bodySF (plainFor_of_name pn_3) hisR ?_
  intro p e s m args below meth c s₁ Bd hml0 hP hK
  obtain ⟨rfl, hZ, hh⟩ := hP
  have hx := Bd.exec
  have hby := Bd.bytes
  have hlk : meth.locks = false := BodyLoose.notSynchronized Bd
  have hml : c.maxLocals = 6 := hml0
  have hown : s.vm.findClass "java/lang/String" = some m.cls := findClass_of_methodNamed Bd.named
  have hnm := (name_of_methodNamed Bd.named Bd.method).1
  have X0 : Stand p l e ({ frames := 4, cells := 2, slots := 3, locals := 57 } : Room) s m #[(.ref a1), (.ref a2), (.int (0 : Int32)), (.int (1 : Int32)), .null] below meth c s₁ [] 0 0 := Stand.of_body Bd
  have e0 : s₁.heap = h0 := by rw [← hh, Bd.state]; rfl
  have N0 := Fr.nil n0
  show Gl p.tables e below (fun (o : Outcome) (U' : State) => ∃ v L, o = .returned v ∧ Qsi1 Z a1 a2 cs c0 h0 n0 v U'.heap L ∧ FrameEnd s o U' L ({ frames := 4, cells := 2, slots := 3, locals := 57 } : Room).cells ({ frames := 4, cells := 2, slots := 3, locals := 57 } : Room).slots) _
  refine Gl.pre (fun t k => castTop (ef_si1 m a1 a2 cs c0) k) ?_
  obtain ⟨PP, hPP⟩ : ∃ P : Outcome → State → Prop, P = (fun (o : Outcome) (U' : State) => ∃ v L, o = .returned v ∧ Qsi1 Z a1 a2 cs c0 h0 n0 v U'.heap L ∧ FrameEnd s o U' L ({ frames := 4, cells := 2, slots := 3, locals := 57 } : Room).cells ({ frames := 4, cells := 2, slots := 3, locals := 57 } : Room).slots) := ⟨_, rfl⟩
  rw [← hPP]
  have K0 : Keep h0 h0 [a1] := Keep.refl h0 _
  show Gl p.tables e below PP (s₁.setTop (mkF m 0 #[.val (.ref a1), .val (.ref a2), .val (.int (0 : Int32)), .val (.int (1 : Int32)), .val .null, .unset] []))
  refine Gl.pre (fun _ k => XS.aloadN X0.here hx rfl (hb hby d3_0) rfl rfl k) ?_
  show Gl p.tables e below PP (s₁.setTop (mkF m 1 #[.val (.ref a1), .val (.ref a2), .val (.int (0 : Int32)), .val (.int (1 : Int32)), .val .null, .unset] [(.ref a1)]))
  obtain ⟨T1, X1, e1, st1⟩ := initO X0 hx hZ hown (hw _ (List.mem_of_getElem? (i := 15) rfl)) (hw _ (List.mem_of_getElem? (i := 16) rfl)) (hw _ (List.mem_of_getElem? (i := 17) rfl)) e0 (g := (mkF m 1 #[.val (.ref a1), .val (.ref a2), .val (.int (0 : Int32)), .val (.int (1 : Int32)), .val .null, .unset] [(.ref a1)])) rfl (by rw [hml]; rfl) rfl (hb hby d3_1) (by decide) (W := 0) (by show 2 * 0 + _ ≤ _; exact Nat.le_of_eq rfl) (by decide)
  refine Gl.pre (fun _ k => st1 _ k) ?_
  show Gl p.tables e below PP (T1.setTop (mkF m 4 #[.val (.ref a1), .val (.ref a2), .val (.int (0 : Int32)), .val (.int (1 : Int32)), .val .null, .unset] []))
  refine Gl.pre (fun _ k => XS.iloadN X1.here hx rfl (hb hby d3_4) rfl k) ?_
  show Gl p.tables e below PP (T1.setTop (mkF m 5 #[.val (.ref a1), .val (.ref a2), .val (.int (0 : Int32)), .val (.int (1 : Int32)), .val .null, .unset] [(.int (1 : Int32))]))
  refine Gl.pre (fun _ k => XS.ifYes X1.here hx rfl (pc0 := 5) (pc' := 27) rfl (hb hby d3_5) rfl ((if0 _ _).trans (feq (show ¬ ((1 : Int32) = (0 : Int32)) from (by decide))).2) (by decide) (by decide) k) ?_
  show Gl p.tables e below PP (T1.setTop (mkF m 27 #[.val (.ref a1), .val (.ref a2), .val (.int (0 : Int32)), .val (.int (1 : Int32)), .val .null, .unset] []))
  obtain ⟨T2, X2, e2, st2⟩ := getS2 X1 hx hZ hown (host := "") (Or.inl (hw _ (List.mem_of_getElem? (i := 45) rfl))) Via.refl e1 (SBC.ext O_.2) (g := (mkF m 27 #[.val (.ref a1), .val (.ref a2), .val (.int (0 : Int32)), .val (.int (1 : Int32)), .val .null, .unset] [])) rfl (hb hby d3_27)
  refine Gl.pre (fun _ k => st2 _ k) ?_
  show Gl p.tables e below PP (T2.setTop (mkF m 30 #[.val (.ref a1), .val (.ref a2), .val (.int (0 : Int32)), .val (.int (1 : Int32)), .val .null, .unset] [(.int cs)]))
  refine Gl.pre (fun _ k => XS.ifNo X2.here hx rfl (hb hby d3_30) rfl ((if0 _ _).trans (feq (show ¬ (cs = (0 : Int32)) from hcs)).1) k) ?_
  show Gl p.tables e below PP (T2.setTop (mkF m 33 #[.val (.ref a1), .val (.ref a2), .val (.int (0 : Int32)), .val (.int (1 : Int32)), .val .null, .unset] []))
  refine Gl.pre (fun _ k => XS.aloadN X2.here hx rfl (hb hby d3_33) rfl rfl k) ?_
  show Gl p.tables e below PP (T2.setTop (mkF m 34 #[.val (.ref a1), .val (.ref a2), .val (.int (0 : Int32)), .val (.int (1 : Int32)), .val .null, .unset] [(.ref a2)]))
  refine Gl.pre (fun _ k => XS.iloadN X2.here hx rfl (hb hby d3_34) rfl k) ?_
  show Gl p.tables e below PP (T2.setTop (mkF m 35 #[.val (.ref a1), .val (.ref a2), .val (.int (0 : Int32)), .val (.int (1 : Int32)), .val .null, .unset] [(.int (0 : Int32)), (.ref a2)]))
  refine Gl.pre (fun _ k => XS.iloadN X2.here hx rfl (hb hby d3_35) rfl k) ?_
  show Gl p.tables e below PP (T2.setTop (mkF m 36 #[.val (.ref a1), .val (.ref a2), .val (.int (0 : Int32)), .val (.int (1 : Int32)), .val .null, .unset] [(.int (1 : Int32)), (.int (0 : Int32)), (.ref a2)]))
  obtain ⟨_, _, ⟨T3, L3, k3, n3⟩, -, X3, ⟨Lc3, hQ3, l3, y3, z3⟩, st3⟩ := Jvm.LawKit.callS X2 hx (y := (⟨"java/lang/StringUTF16", "compress", "([CII)[B"⟩ : MethodName)) hown (mvT hZ (hw _ (List.mem_of_getElem? (i := 55) rfl))) (mvT hZ (hw _ (List.mem_of_getElem? (i := 56) rfl))) (mvT hZ (hw _ (List.mem_of_getElem? (i := 57) rfl))) (mvT hZ (hw _ (List.mem_of_getElem? (i := 58) rfl))) (by decide) (backOf (W := 0) (rmcm1 l Z a0 hw [] a2 c0 h0 n0 Z0 V_a2 hr0 SAD SHI SLO O_) hZ (hw _ (List.mem_of_getElem? (i := 58) rfl)) (hw _ (List.mem_of_getElem? (i := 57) rfl)) (by decide) (by decide)) (g := (mkF m 36 #[.val (.ref a1), .val (.ref a2), .val (.int (0 : Int32)), .val (.int (1 : Int32)), .val .null, .unset] [(.int (1 : Int32)), (.int (0 : Int32)), (.ref a2)])) rfl (by rw [hml]; rfl) (argsL := [(.ref a2), (.int (0 : Int32)), (.int (1 : Int32))]) (rest := []) (lenOf pd_4 rfl) rfl (by show 2 * 0 + _ ≤ _; exact Nat.le_of_eq rfl) (hb hby d3_36) (fun _ _ => ⟨rfl, e2, (by decide : 0 + 2 ≤ _), (by decide : 0 + 3 ≤ _)⟩)
  dsimp only [Pt.U, Pt.locs, Pt.cells, Pt.slots] at X3 l3 y3 z3 st3 hQ3
  subst l3 y3 z3
  obtain ⟨bc3, ys3, rfl, N3q, hz3, K3, hl3, V3q⟩ := hQ3
  have N3 := Fr.app N0 N3q
  refine Gl.pre (fun _ k => st3 _ k) ?_
  have own_ne_a1_bc3 : a1 ≠ bc3 := Nat.ne_of_lt (Nat.lt_of_lt_of_le E_a1.lt hz3)
  have own_ne_bc3_a1 := own_ne_a1_bc3.symm
  have own_ne_a2_bc3 : a2 ≠ bc3 := Nat.ne_of_lt (Nat.lt_of_lt_of_le V_a2.lt hz3)
  have own_ne_bc3_a2 := own_ne_a2_bc3.symm
  have g_bc3 : n0 ≤ bc3 := Nat.le_trans Z0 hz3
  have sz_bc3 : h0.size ≤ bc3 := Nat.le_trans K0.1 hz3
  have E_a1 := E_a1.keep K3
  have F_value_a1 := F_value_a1.keep K3 nin0
  have F_coder_a1 := F_coder_a1.keep K3 nin0
  have V_a2 := V_a2.keep K3 nin0
  have O_ := O_.keep K3 all0
  have Z3 : n0 ≤ T3.heap.size := Nat.le_trans Z0 K3.1
  have K3k := K0.trans K3 all0
  have V_bc3 := V3q
  show Gl p.tables e below PP (T3.setTop (mkF m 39 #[.val (.ref a1), .val (.ref a2), .val (.int (0 : Int32)), .val (.int (1 : Int32)), .val .null, .unset] [(.ref bc3)]))
  refine Gl.pre (fun _ k => XS.astore X3.here hx rfl (hb hby d3_39) rfl rfl (l' := #[.val (.ref a1), .val (.ref a2), .val (.int (0 : Int32)), .val (.int (1 : Int32)), .val .null, .val (.ref bc3)]) rfl k) ?_
  show Gl p.tables e below PP (T3.setTop (mkF m 41 #[.val (.ref a1), .val (.ref a2), .val (.int (0 : Int32)), .val (.int (1 : Int32)), .val .null, .val (.ref bc3)] []))
  refine Gl.pre (fun _ k => XS.aloadN X3.here hx rfl (hb hby d3_41) rfl rfl k) ?_
  show Gl p.tables e below PP (T3.setTop (mkF m 42 #[.val (.ref a1), .val (.ref a2), .val (.int (0 : Int32)), .val (.int (1 : Int32)), .val .null, .val (.ref bc3)] [(.ref a1)]))
  refine Gl.pre (fun _ k => XS.aload X3.here hx rfl (hb hby d3_42) rfl rfl k) ?_
  show Gl p.tables e below PP (T3.setTop (mkF m 44 #[.val (.ref a1), .val (.ref a2), .val (.int (0 : Int32)), .val (.int (1 : Int32)), .val .null, .val (.ref bc3)] [(.ref bc3), (.ref a1)]))
  refine Gl.pre (fun _ k => XS.iloadN X3.here hx rfl (hb hby d3_44) rfl k) ?_
  show Gl p.tables e below PP (T3.setTop (mkF m 45 #[.val (.ref a1), .val (.ref a2), .val (.int (0 : Int32)), .val (.int (1 : Int32)), .val .null, .val (.ref bc3)] [(.int (1 : Int32)), (.ref bc3), (.ref a1)]))
  rcases hl3 with hl3 | hl3
  · show Gl p.tables e below PP (T3.setTop (mkF m 45 #[.val (.ref a1), .val (.ref a2), .val (.int (0 : Int32)), .val (.int (1 : Int32)), .val .null, .val (.ref bc3)] [(.int (1 : Int32)), (.ref bc3), (.ref a1)]))
    obtain ⟨_, _, ⟨T4, L4, k4, n4⟩, -, X4, ⟨Lc4, hQ4, l4, y4, z4⟩, st4⟩ := Jvm.LawKit.callS X3 hx (y := (⟨"java/lang/StringUTF16", "coderFromArrayLen", "([BI)B"⟩ : MethodName)) hown (mvT hZ (hw _ (List.mem_of_getElem? (i := 62) rfl))) (mvT hZ (hw _ (List.mem_of_getElem? (i := 63) rfl))) (mvT hZ (hw _ (List.mem_of_getElem? (i := 57) rfl))) (mvT hZ (hw _ (List.mem_of_getElem? (i := 64) rfl))) (by decide) (backOf (W := 1) (rmcf1_1 l Z a0 hw [] bc3 ys3 T3.heap n0 Z3 V_bc3 hl3) hZ (hw _ (List.mem_of_getElem? (i := 64) rfl)) (hw _ (List.mem_of_getElem? (i := 57) rfl)) (by decide) (by decide)) (g := (mkF m 45 #[.val (.ref a1), .val (.ref a2), .val (.int (0 : Int32)), .val (.int (1 : Int32)), .val .null, .val (.ref bc3)] [(.int (1 : Int32)), (.ref bc3), (.ref a1)])) rfl (by rw [hml]; rfl) (argsL := [(.ref bc3), (.int (1 : Int32))]) (rest := [(.ref a1)]) (lenOf pd_6 rfl) rfl (by show 2 * 0 + _ ≤ _; exact Nat.le_of_eq rfl) (hb hby d3_45) (fun _ _ => ⟨rfl, rfl, (by decide : 2 + 0 ≤ _), (by decide : 3 + 0 ≤ _)⟩)
    dsimp only [Pt.U, Pt.locs, Pt.cells, Pt.slots] at X4 l4 y4 z4 st4 hQ4
    subst l4 y4 z4
    obtain ⟨rfl, N4q, e4⟩ := hQ4
    have N4 := Fr.app N3 N4q
    refine Gl.pre (fun _ k => st4 _ k) ?_
    show Gl p.tables e below PP (T4.setTop (mkF m 48 #[.val (.ref a1), .val (.ref a2), .val (.int (0 : Int32)), .val (.int (1 : Int32)), .val .null, .val (.ref bc3)] [(.int (0 : Int32)), (.ref a1)]))
    obtain ⟨T5, h5, X5, e5, W5, st5⟩ := putFN X4 hx hZ hown (hw _ (List.mem_of_getElem? (i := 25) rfl)) Via.refl e4 F_coder_a1 E_a1 (Or.inr ⟨(hw _ (List.mem_of_getElem? (i := 21) rfl)), rfl, hnm⟩) (hw _ (List.mem_of_getElem? (i := 5) rfl)) (ty := .byte) (v' := (.int (0 : Int32))) (by decide) rfl rfl (g := (mkF m 48 #[.val (.ref a1), .val (.ref a2), .val (.int (0 : Int32)), .val (.int (1 : Int32)), .val .null, .val (.ref bc3)] [(.int (0 : Int32)), (.ref a1)])) rfl rfl (hb hby d3_48)
    refine Gl.pre (fun _ k => st5 _ k) ?_
    have E_a1 := E_a1.wr W5
    have F_value_a1 := F_value_a1.other W5 (Or.inr (slot_ne (Or.inr (hw _ (List.mem_of_getElem? (i := 20) rfl))) (Or.inr (hw _ (List.mem_of_getElem? (i := 21) rfl))) (by decide) (t := (.array .byte)) (t' := .byte) (by decide) (by decide)))
    have F_coder_a1 := F_coder_a1.same W5
    have V_a2 := V_a2.other W5 (own_ne_a2_a1)
    have O_ := O_.wr W5 g_a1
    have V_bc3 := V_bc3.other W5 (own_ne_bc3_a1)
    have Z5 : n0 ≤ h5.size := by rw [W5.size]; exact Z3
    have N5 := Fr.snoc X5 N4 g_a1
    have K5 := K3k.wr W5 (Or.inl (List.mem_of_getElem? (i := 0) rfl))
    show Gl p.tables e below PP (T5.setTop (mkF m 51 #[.val (.ref a1), .val (.ref a2), .val (.int (0 : Int32)), .val (.int (1 : Int32)), .val .null, .val (.ref bc3)] []))
    refine Gl.pre (fun _ k => XS.aloadN X5.here hx rfl (hb hby d3_51) rfl rfl k) ?_
    show Gl p.tables e below PP (T5.setTop (mkF m 52 #[.val (.ref a1), .val (.ref a2), .val (.int (0 : Int32)), .val (.int (1 : Int32)), .val .null, .val (.ref bc3)] [(.ref a1)]))
    refine Gl.pre (fun _ k => XS.aload X5.here hx rfl (hb hby d3_52) rfl rfl k) ?_
    show Gl p.tables e below PP (T5.setTop (mkF m 54 #[.val (.ref a1), .val (.ref a2), .val (.int (0 : Int32)), .val (.int (1 : Int32)), .val .null, .val (.ref bc3)] [(.ref bc3), (.ref a1)]))
    obtain ⟨T6, h6, X6, e6, W6, st6⟩ := putF X5 hx hZ hown (host := "") (Or.inl (hw _ (List.mem_of_getElem? (i := 24) rfl))) Via.refl e5 F_value_a1 E_a1 (Or.inr ⟨(hw _ (List.mem_of_getElem? (i := 20) rfl)), rfl, hnm⟩) (hw _ (List.mem_of_getElem? (i := 5) rfl)) (ty := (.array .byte)) (by decide) rfl rfl (g := (mkF m 54 #[.val (.ref a1), .val (.ref a2), .val (.int (0 : Int32)), .val (.int (1 : Int32)), .val .null, .val (.ref bc3)] [(.ref bc3), (.ref a1)])) rfl rfl (hb hby d3_54)
    refine Gl.pre (fun _ k => st6 _ k) ?_
    have E_a1 := E_a1.wr W6
    have F_value_a1 := F_value_a1.same W6
    have F_coder_a1 := F_coder_a1.other W6 (Or.inr (slot_ne (Or.inr (hw _ (List.mem_of_getElem? (i := 21) rfl))) (Or.inr (hw _ (List.mem_of_getElem? (i := 20) rfl))) (by decide) (t := .byte) (t' := (.array .byte)) (by decide) (by decide)))
    have V_a2 := V_a2.other W6 (own_ne_a2_a1)
    have O_ := O_.wr W6 g_a1
    have V_bc3 := V_bc3.other W6 (own_ne_bc3_a1)
    have Z6 : n0 ≤ h6.size := by rw [W6.size]; exact Z5
    have N6 := Fr.snoc X6 N5 g_a1
    have K6 := K5.wr W6 (Or.inl (List.mem_of_getElem? (i := 0) rfl))
    show Gl p.tables e below PP (T6.setTop (mkF m 57 #[.val (.ref a1), .val (.ref a2), .val (.int (0 : Int32)), .val (.int (1 : Int32)), .val .null, .val (.ref bc3)] []))
    rw [hPP]
    refine own_finV (Q := (Qsi1 Z a1 a2 cs c0 h0 n0)) X6 hx hlk Bd.returns (hb hby d3_57) ?_ (by decide) (by decide)
    show Qsi1 Z a1 a2 cs c0 h0 n0 _ T6.heap _
    rw [e6]
    exact ⟨rfl, N6, K6, bc3, ys3, (0 : Int32), Or.inl rfl, by rw [hl3]; decide, own_ne_bc3_a1, F_value_a1, F_coder_a1, V_bc3⟩
  · show Gl p.tables e below PP (T3.setTop (mkF m 45 #[.val (.ref a1), .val (.ref a2), .val (.int (0 : Int32)), .val (.int (1 : Int32)), .val .null, .val (.ref bc3)] [(.int (1 : Int32)), (.ref bc3), (.ref a1)]))
    obtain ⟨_, _, ⟨T7, L7, k7, n7⟩, -, X7, ⟨Lc7, hQ7, l7, y7, z7⟩, st7⟩ := Jvm.LawKit.callS X3 hx (y := (⟨"java/lang/StringUTF16", "coderFromArrayLen", "([BI)B"⟩ : MethodName)) hown (mvT hZ (hw _ (List.mem_of_getElem? (i := 62) rfl))) (mvT hZ (hw _ (List.mem_of_getElem? (i := 63) rfl))) (mvT hZ (hw _ (List.mem_of_getElem? (i := 57) rfl))) (mvT hZ (hw _ (List.mem_of_getElem? (i := 64) rfl))) (by decide) (backOf (W := 1) (rmcf1_2 l Z a0 hw [] bc3 ys3 T3.heap n0 Z3 V_bc3 hl3) hZ (hw _ (List.mem_of_getElem? (i := 64) rfl)) (hw _ (List.mem_of_getElem? (i := 57) rfl)) (by decide) (by decide)) (g := (mkF m 45 #[.val (.ref a1), .val (.ref a2), .val (.int (0 : Int32)), .val (.int (1 : Int32)), .val .null, .val (.ref bc3)] [(.int (1 : Int32)), (.ref bc3), (.ref a1)])) rfl (by rw [hml]; rfl) (argsL := [(.ref bc3), (.int (1 : Int32))]) (rest := [(.ref a1)]) (lenOf pd_6 rfl) rfl (by show 2 * 0 + _ ≤ _; exact Nat.le_of_eq rfl) (hb hby d3_45) (fun _ _ => ⟨rfl, rfl, (by decide : 2 + 0 ≤ _), (by decide : 3 + 0 ≤ _)⟩)
    dsimp only [Pt.U, Pt.locs, Pt.cells, Pt.slots] at X7 l7 y7 z7 st7 hQ7
    subst l7 y7 z7
    obtain ⟨rfl, N7q, e7⟩ := hQ7
    have N7 := Fr.app N3 N7q
    refine Gl.pre (fun _ k => st7 _ k) ?_
    show Gl p.tables e below PP (T7.setTop (mkF m 48 #[.val (.ref a1), .val (.ref a2), .val (.int (0 : Int32)), .val (.int (1 : Int32)), .val .null, .val (.ref bc3)] [(.int (1 : Int32)), (.ref a1)]))
    obtain ⟨T8, h8, X8, e8, W8, st8⟩ := putFN X7 hx hZ hown (hw _ (List.mem_of_getElem? (i := 25) rfl)) Via.refl e7 F_coder_a1 E_a1 (Or.inr ⟨(hw _ (List.mem_of_getElem? (i := 21) rfl)), rfl, hnm⟩) (hw _ (List.mem_of_getElem? (i := 5) rfl)) (ty := .byte) (v' := (.int (1 : Int32))) (by decide) rfl rfl (g := (mkF m 48 #[.val (.ref a1), .val (.ref a2), .val (.int (0 : Int32)), .val (.int (1 : Int32)), .val .null, .val (.ref bc3)] [(.int (1 : Int32)), (.ref a1)])) rfl rfl (hb hby d3_48)
    refine Gl.pre (fun _ k => st8 _ k) ?_
    have E_a1 := E_a1.wr W8
    have F_value_a1 := F_value_a1.other W8 (Or.inr (slot_ne (Or.inr (hw _ (List.mem_of_getElem? (i := 20) rfl))) (Or.inr (hw _ (List.mem_of_getElem? (i := 21) rfl))) (by decide) (t := (.array .byte)) (t' := .byte) (by decide) (by decide)))
    have F_coder_a1 := F_coder_a1.same W8
    have V_a2 := V_a2.other W8 (own_ne_a2_a1)
    have O_ := O_.wr W8 g_a1
    have V_bc3 := V_bc3.other W8 (own_ne_bc3_a1)
    have Z8 : n0 ≤ h8.size := by rw [W8.size]; exact Z3
    have N8 := Fr.snoc X8 N7 g_a1
    have K8 := K3k.wr W8 (Or.inl (List.mem_of_getElem? (i := 0) rfl))
    show Gl p.tables e below PP (T8.setTop (mkF m 51 #[.val (.ref a1), .val (.ref a2), .val (.int (0 : Int32)), .val (.int (1 : Int32)), .val .null, .val (.ref bc3)] []))
    refine Gl.pre (fun _ k => XS.aloadN X8.here hx rfl (hb hby d3_51) rfl rfl k) ?_
    show Gl p.tables e below PP (T8.setTop (mkF m 52 #[.val (.ref a1), .val (.ref a2), .val (.int (0 : Int32)), .val (.int (1 : Int32)), .val .null, .val (.ref bc3)] [(.ref a1)]))
    refine Gl.pre (fun _ k => XS.aload X8.here hx rfl (hb hby d3_52) rfl rfl k) ?_
    show Gl p.tables e below PP (T8.setTop (mkF m 54 #[.val (.ref a1), .val (.ref a2), .val (.int (0 : Int32)), .val (.int (1 : Int32)), .val .null, .val (.ref bc3)] [(.ref bc3), (.ref a1)]))
    obtain ⟨T9, h9, X9, e9, W9, st9⟩ := putF X8 hx hZ hown (host := "") (Or.inl (hw _ (List.mem_of_getElem? (i := 24) rfl))) Via.refl e8 F_value_a1 E_a1 (Or.inr ⟨(hw _ (List.mem_of_getElem? (i := 20) rfl)), rfl, hnm⟩) (hw _ (List.mem_of_getElem? (i := 5) rfl)) (ty := (.array .byte)) (by decide) rfl rfl (g := (mkF m 54 #[.val (.ref a1), .val (.ref a2), .val (.int (0 : Int32)), .val (.int (1 : Int32)), .val .null, .val (.ref bc3)] [(.ref bc3), (.ref a1)])) rfl rfl (hb hby d3_54)
    refine Gl.pre (fun _ k => st9 _ k) ?_
    have E_a1 := E_a1.wr W9
    have F_value_a1 := F_value_a1.same W9
    have F_coder_a1 := F_coder_a1.other W9 (Or.inr (slot_ne (Or.inr (hw _ (List.mem_of_getElem? (i := 21) rfl))) (Or.inr (hw _ (List.mem_of_getElem? (i := 20) rfl))) (by decide) (t := .byte) (t' := (.array .byte)) (by decide) (by decide)))
    have V_a2 := V_a2.other W9 (own_ne_a2_a1)
    have O_ := O_.wr W9 g_a1
    have V_bc3 := V_bc3.other W9 (own_ne_bc3_a1)
    have Z9 : n0 ≤ h9.size := by rw [W9.size]; exact Z8
    have N9 := Fr.snoc X9 N8 g_a1
    have K9 := K8.wr W9 (Or.inl (List.mem_of_getElem? (i := 0) rfl))
    show Gl p.tables e below PP (T9.setTop (mkF m 57 #[.val (.ref a1), .val (.ref a2), .val (.int (0 : Int32)), .val (.int (1 : Int32)), .val .null, .val (.ref bc3)] []))
    rw [hPP]
    refine own_finV (Q := (Qsi1 Z a1 a2 cs c0 h0 n0)) X9 hx hlk Bd.returns (hb hby d3_57) ?_ (by decide) (by decide)
    show Qsi1 Z a1 a2 cs c0 h0 n0 _ T9.heap _
    rw [e9]
    exact ⟨rfl, N9, K9, bc3, ys3, (1 : Int32), Or.inr rfl, by rw [hl3]; decide, own_ne_bc3_a1, F_value_a1, F_coder_a1, V_bc3⟩
theorem d2_0 : decode jdk_42_method_3_code 0 = .ok (.aload_n 0, 1) := by decide +kernel
theorem d2_1 : decode jdk_42_method_3_code 1 = .ok (.aload_n 1, 1) := by decide +kernel
theorem d2_2 : decode jdk_42_method_3_code 2 = .ok (.iconst 0, 1) := by decide +kernel
theorem d2_3 : decode jdk_42_method_3_code 3 = .ok (.aload_n 1, 1) := by decide +kernel
theorem d2_4 : decode jdk_42_method_3_code 4 = .ok (.arraylength, 1) := by decide +kernel
theorem d2_5 : decode jdk_42_method_3_code 5 = .ok (.aconst_null, 1) := by decide +kernel
theorem d2_6 : decode jdk_42_method_3_code 6 = .ok (.invokespecial 27, 3) := by decide +kernel
theorem d2_9 : decode jdk_42_method_3_code 9 = .ok (.return_, 1) := by decide +kernel
theorem pn_2 : plainName "java/lang/String" = true := by first | (simp [plainName, overriddenIn]; done) | decide +kernel
theorem ef_s1 (m : MethodId) (a1 : Addr) (a2 : Addr) (cs : Int32) (c0 : Int32) : entryFrame m #[(.ref a1), (.ref a2)] 2 = mkF m 0 #[.val (.ref a1), .val (.ref a2)] [] := by first | (simp [entryFrame, mkF, argsToLocals, Value.category]; done) | rfl
def Qs1 (Z : State) (a1 : Addr) (a2 : Addr) (cs : Int32) (c0 : Int32) (h0 : Heap) (n0 : Nat) (v : Option Value) (h : Heap) (L : List Loc) : Prop := v = none ∧ Fr n0 L ∧ Keep h0 h [a1] ∧ ∃ (vb : Addr) (ys : List Int32) (co : Int32), (co = 0 ∨ co = 1) ∧ (ys.length.toInt32 >>> (co &&& 31)) = (1 : Int32) ∧ vb ≠ a1 ∧ Fld Z h a1 "java/lang/String" "value" "[B" (.ref vb) ∧ Fld Z h a1 "java/lang/String" "coder" "B" (.int co) ∧ Bal Z h vb .byte ys
set_option maxRecDepth 65536 in
set_option maxHeartbeats 40000000 in
theorem rms1 (l : Launch) (Z : State) (a0 : Array Value) (hw : ∀ d ∈ tables_1, d.before a0 Z = true) (ws : List Jvm.Cond) (a1 : Addr) (a2 : Addr) (cs : Int32) (c0 : Int32) (h0 : Heap) (n0 : Nat) (Z0 : n0 ≤ h0.size) (E_a1 : Exa Z h0 a1 "java/lang/String") (F_value_a1 : Fld Z h0 a1 "java/lang/String" "value" "[B" .null) (F_coder_a1 : Fld Z h0 a1 "java/lang/String" "coder" "B" (.int (0 : Int32))) (g_a1 : n0 ≤ a1) (V_a2 : Bal Z h0 a2 .char [c0]) (own_ne_a1_a2 : a1 ≠ a2) (own_ne_a2_a1 : a2 ≠ a1) (hr0 : 0 ≤ c0.toInt ∧ c0.toInt < 65536) (SBC : Sta Z Z.heap "java/lang/String" "COMPACT_STRINGS" "Z" (.int cs)) (hcs : ¬ (cs = (0 : Int32))) (SAD : Sta Z Z.heap "java/lang/StringUTF16" "$assertionsDisabled" "Z" (.int (1 : Int32))) (SHI : Sta Z Z.heap "java/lang/StringUTF16" "HI_BYTE_SHIFT" "I" (.int (0 : Int32))) (SLO : Sta Z Z.heap "java/lang/StringUTF16" "LO_BYTE_SHIFT" "I" (.int (8 : Int32))) (O_ : Old Z n0 h0) :
    MetFree l (⟨"java/lang/String", "<init>", "([C)V"⟩ : MethodName) (head1 (Jvm.Cond.code (⟨"java/lang/String", "<init>", "([C)V"⟩ : MethodName) jdk_42_method_3_code 2 none :: ws) ({ frames := 5, cells := 2, slots := 3, locals := 74 } : Room)) (fun a U => a = #[(.ref a1), (.ref a2)] ∧ Z.Warmed39 U.vm ∧ U.heap = h0) (fun _ _ _ _ _ => True) (fun _ U o U' => ∃ v L, o = .returned v ∧ Qs1 Z a1 a2 cs c0 h0 n0 v U'.heap L ∧ FrameEnd U o U' L ({ frames := 5, cells := 2, slots := 3, locals := 74 } : Room).cells ({ frames := 5, cells := 2, slots := 3, locals := 74 } : Room).slots) := by
  refine MetFree.of_bodySF (plainFor_of_name pn_2) hisR ?_
  intro p e s m args below meth c s₁ Bd hml0 hP hK
  obtain ⟨rfl, hZ, hh⟩ := hP
  have hx := Bd.exec
  have hby := Bd.bytes
  have hlk : meth.locks = false := BodyLoose.notSynchronized Bd
  have hml : c.maxLocals = 2 := hml0
  have hown : s.vm.findClass "java/lang/String" = some m.cls := findClass_of_methodNamed Bd.named
  have hnm := (name_of_methodNamed Bd.named Bd.method).1
  have X0 : Stand p l e ({ frames := 5, cells := 2, slots := 3, locals := 74 } : Room) s m #[(.ref a1), (.ref a2)] below meth c s₁ [] 0 0 := Stand.of_body Bd
  have e0 : s₁.heap = h0 := by rw [← hh, Bd.state]; rfl
  have N0 := Fr.nil n0
  show Gl p.tables e below (fun (o : Outcome) (U' : State) => ∃ v L, o = .returned v ∧ Qs1 Z a1 a2 cs c0 h0 n0 v U'.heap L ∧ FrameEnd s o U' L ({ frames := 5, cells := 2, slots := 3, locals := 74 } : Room).cells ({ frames := 5, cells := 2, slots := 3, locals := 74 } : Room).slots) _
  refine Gl.pre (fun t k => castTop (ef_s1 m a1 a2 cs c0) k) ?_
  obtain ⟨PP, hPP⟩ : ∃ P : Outcome → State → Prop, P = (fun (o : Outcome) (U' : State) => ∃ v L, o = .returned v ∧ Qs1 Z a1 a2 cs c0 h0 n0 v U'.heap L ∧ FrameEnd s o U' L ({ frames := 5, cells := 2, slots := 3, locals := 74 } : Room).cells ({ frames := 5, cells := 2, slots := 3, locals := 74 } : Room).slots) := ⟨_, rfl⟩
  rw [← hPP]
  have K0 : Keep h0 h0 [a1] := Keep.refl h0 _
  show Gl p.tables e below PP (s₁.setTop (mkF m 0 #[.val (.ref a1), .val (.ref a2)] []))
  refine Gl.pre (fun _ k => XS.aloadN X0.here hx rfl (hb hby d2_0) rfl rfl k) ?_
  show Gl p.tables e below PP (s₁.setTop (mkF m 1 #[.val (.ref a1), .val (.ref a2)] [(.ref a1)]))
  refine Gl.pre (fun _ k => XS.aloadN X0.here hx rfl (hb hby d2_1) rfl rfl k) ?_
  show Gl p.tables e below PP (s₁.setTop (mkF m 2 #[.val (.ref a1), .val (.ref a2)] [(.ref a2), (.ref a1)]))
  refine Gl.pre (fun _ k => XS.iconst X0.here hx rfl (hb hby d2_2) k) ?_
  show Gl p.tables e below PP (s₁.setTop (mkF m 3 #[.val (.ref a1), .val (.ref a2)] [(.int (0 : Int32)), (.ref a2), (.ref a1)]))
  refine Gl.pre (fun _ k => XS.aloadN X0.here hx rfl (hb hby d2_3) rfl rfl k) ?_
  show Gl p.tables e below PP (s₁.setTop (mkF m 4 #[.val (.ref a1), .val (.ref a2)] [(.ref a2), (.int (0 : Int32)), (.ref a2), (.ref a1)]))
  refine Gl.pre (fun _ k => own_len X0 hx hZ e0 V_a2 (v := (1 : Int32)) rfl (g := (mkF m 4 #[.val (.ref a1), .val (.ref a2)] [(.ref a2), (.int (0 : Int32)), (.ref a2), (.ref a1)])) rfl rfl (hb hby d2_4) _ k) ?_
  show Gl p.tables e below PP (s₁.setTop (mkF m 5 #[.val (.ref a1), .val (.ref a2)] [(.int (1 : Int32)), (.int (0 : Int32)), (.ref a2), (.ref a1)]))
  refine Gl.pre (fun _ k => XS.aconstNull X0.here hx rfl (hb hby d2_5) k) ?_
  show Gl p.tables e below PP (s₁.setTop (mkF m 6 #[.val (.ref a1), .val (.ref a2)] [.null, (.int (1 : Int32)), (.int (0 : Int32)), (.ref a2), (.ref a1)]))
  obtain ⟨_, _, ⟨T1, L1, k1, n1⟩, -, X1, ⟨Lc1, hQ1, l1, y1, z1⟩, st1⟩ := X0.specialBack hx (y := (⟨"java/lang/String", "<init>", "([CIILjava/lang/Void;)V"⟩ : MethodName)) rfl hown (mvT hZ (hw _ (List.mem_of_getElem? (i := 11) rfl))) (mvT hZ (hw _ (List.mem_of_getElem? (i := 12) rfl))) (mvT hZ (hw _ (List.mem_of_getElem? (i := 14) rfl))) (by decide) (backOf (W := 0) (rmsi1 l Z a0 hw [] a1 a2 cs c0 h0 n0 Z0 E_a1 F_value_a1 F_coder_a1 g_a1 V_a2 own_ne_a1_a2 own_ne_a2_a1 hr0 SBC hcs SAD SHI SLO O_) hZ (hw _ (List.mem_of_getElem? (i := 14) rfl)) (hw _ (List.mem_of_getElem? (i := 6) rfl)) (by decide) (by decide)) (g := (mkF m 6 #[.val (.ref a1), .val (.ref a2)] [.null, (.int (1 : Int32)), (.int (0 : Int32)), (.ref a2), (.ref a1)])) rfl (by rw [hml]; rfl) (Steps.refl _) (a := a1) (argsL := [(.ref a2), (.int (0 : Int32)), (.int (1 : Int32)), .null]) (rest := []) (lenOf pd_7 rfl) rfl (by show 2 * 0 + _ ≤ _; exact Nat.le_of_eq rfl) (hb hby d2_6) (fun _ _ => ⟨rfl, e0, (by decide : 0 + 2 ≤ _), (by decide : 0 + 3 ≤ _)⟩)
  dsimp only [Pt.U, Pt.locs, Pt.cells, Pt.slots] at X1 l1 y1 z1 st1 hQ1
  subst l1 y1 z1
  obtain ⟨rfl, N1q, K1, vb1, ys1, co1, hco1, hln1, hne1, Fv1, Fc1, Vs1⟩ := hQ1
  have N1 := Fr.app N0 N1q
  refine Gl.pre (fun _ k => st1.trans k) ?_
  have E_a1 := E_a1.keep K1
  have V_a2 := V_a2.keep K1 (ninS (own_ne_a2_a1) nin0)
  have O_ := O_.keep K1 (allS g_a1 all0)
  have Z1 : n0 ≤ T1.heap.size := Nat.le_trans Z0 K1.1
  have K1k := K0.trans K1 (allS (Or.inl (List.mem_of_getElem? (i := 0) rfl)) all0)
  have F_value_a1 := Fv1
  have F_coder_a1 := Fc1
  have V_vb1 := Vs1
  have own_ne_vb1_a1 := hne1
  have own_ne_a1_vb1 := hne1.symm
  show Gl p.tables e below PP (T1.setTop (mkF m 9 #[.val (.ref a1), .val (.ref a2)] []))
  rw [hPP]
  refine own_finV (Q := (Qs1 Z a1 a2 cs c0 h0 n0)) X1 hx hlk Bd.returns (hb hby d2_9) ?_ (by decide) (by decide)
  show Qs1 Z a1 a2 cs c0 h0 n0 _ T1.heap _
  exact ⟨rfl, N1, K1k, vb1, ys1, co1, hco1, hln1, hne1, F_value_a1, F_coder_a1, V_vb1⟩
theorem ef_si2 (m : MethodId) (a1 : Addr) (a2 : Addr) (cs : Int32) (c0 : Int32) (c1 : Int32) : entryFrame m #[(.ref a1), (.ref a2), (.int (0 : Int32)), (.int (2 : Int32)), .null] 6 = mkF m 0 #[.val (.ref a1), .val (.ref a2), .val (.int (0 : Int32)), .val (.int (2 : Int32)), .val .null, .unset] [] := by first | (simp [entryFrame, mkF, argsToLocals, Value.category]; done) | rfl
def Qsi2 (Z : State) (a1 : Addr) (a2 : Addr) (cs : Int32) (c0 : Int32) (c1 : Int32) (h0 : Heap) (n0 : Nat) (v : Option Value) (h : Heap) (L : List Loc) : Prop := v = none ∧ Fr n0 L ∧ Keep h0 h [a1] ∧ ∃ (vb : Addr) (ys : List Int32) (co : Int32), (co = 0 ∨ co = 1) ∧ (ys.length.toInt32 >>> (co &&& 31)) = (2 : Int32) ∧ vb ≠ a1 ∧ Fld Z h a1 "java/lang/String" "value" "[B" (.ref vb) ∧ Fld Z h a1 "java/lang/String" "coder" "B" (.int co) ∧ Bal Z h vb .byte ys
set_option maxRecDepth 65536 in
set_option maxHeartbeats 40000000 in
theorem rmsi2 (l : Launch) (Z : State) (a0 : Array Value) (hw : ∀ d ∈ tables_1, d.before a0 Z = true) (ws : List Jvm.Cond) (a1 : Addr) (a2 : Addr) (cs : Int32) (c0 : Int32) (c1 : Int32) (h0 : Heap) (n0 : Nat) (Z0 : n0 ≤ h0.size) (E_a1 : Exa Z h0 a1 "java/lang/String") (F_value_a1 : Fld Z h0 a1 "java/lang/String" "value" "[B" .null) (F_coder_a1 : Fld Z h0 a1 "java/lang/String" "coder" "B" (.int (0 : Int32))) (g_a1 : n0 ≤ a1) (V_a2 : Bal Z h0 a2 .char [c0, c1]) (own_ne_a1_a2 : a1 ≠ a2) (own_ne_a2_a1 : a2 ≠ a1) (hr0 : 0 ≤ c0.toInt ∧ c0.toInt < 65536) (hr1 : 0 ≤ c1.toInt ∧ c1.toInt < 65536) (SBC : Sta Z Z.heap "java/lang/String" "COMPACT_STRINGS" "Z" (.int cs)) (hcs : ¬ (cs = (0 : Int32))) (SAD : Sta Z Z.heap "java/lang/StringUTF16" "$assertionsDisabled" "Z" (.int (1 : Int32))) (SHI : Sta Z Z.heap "java/lang/StringUTF16" "HI_BYTE_SHIFT" "I" (.int (0 : Int32))) (SLO : Sta Z Z.heap "java/lang/StringUTF16" "LO_BYTE_SHIFT" "I" (.int (8 : Int32))) (O_ : Old Z n0 h0) :
    MetFree l (⟨"java/lang/String", "<init>", "([CIILjava/lang/Void;)V"⟩ : MethodName) (head1 (Jvm.Cond.code (⟨"java/lang/String", "<init>", "([CIILjava/lang/Void;)V"⟩ : MethodName) jdk_42_method_149_code 6 none :: ws) ({ frames := 4, cells := 2, slots := 6, locals := 57 } : Room)) (fun a U => a = #[(.ref a1), (.ref a2), (.int (0 : Int32)), (.int (2 : Int32)), .null] ∧ Z.Warmed39 U.vm ∧ U.heap = h0) (fun _ _ _ _ _ => True) (fun _ U o U' => ∃ v L, o = .returned v ∧ Qsi2 Z a1 a2 cs c0 c1 h0 n0 v U'.heap L ∧ FrameEnd U o U' L ({ frames := 4, cells := 2, slots := 6, locals := 57 } : Room).cells ({ frames := 4, cells := 2, slots := 6, locals := 57 } : Room).slots) := by
  refine MetFree.of_bodySF (plainFor_of_name pn_3) hisR ?_
  intro p e s m args below meth c s₁ Bd hml0 hP hK
  obtain ⟨rfl, hZ, hh⟩ := hP
  have hx := Bd.exec
  have hby := Bd.bytes
  have hlk : meth.locks = false := BodyLoose.notSynchronized Bd
  have hml : c.maxLocals = 6 := hml0
  have hown : s.vm.findClass "java/lang/String" = some m.cls := findClass_of_methodNamed Bd.named
  have hnm := (name_of_methodNamed Bd.named Bd.method).1
  have X0 : Stand p l e ({ frames := 4, cells := 2, slots := 6, locals := 57 } : Room) s m #[(.ref a1), (.ref a2), (.int (0 : Int32)), (.int (2 : Int32)), .null] below meth c s₁ [] 0 0 := Stand.of_body Bd
  have e0 : s₁.heap = h0 := by rw [← hh, Bd.state]; rfl
  have N0 := Fr.nil n0
  show Gl p.tables e below (fun (o : Outcome) (U' : State) => ∃ v L, o = .returned v ∧ Qsi2 Z a1 a2 cs c0 c1 h0 n0 v U'.heap L ∧ FrameEnd s o U' L ({ frames := 4, cells := 2, slots := 6, locals := 57 } : Room).cells ({ frames := 4, cells := 2, slots := 6, locals := 57 } : Room).slots) _
  refine Gl.pre (fun t k => castTop (ef_si2 m a1 a2 cs c0 c1) k) ?_
  obtain ⟨PP, hPP⟩ : ∃ P : Outcome → State → Prop, P = (fun (o : Outcome) (U' : State) => ∃ v L, o = .returned v ∧ Qsi2 Z a1 a2 cs c0 c1 h0 n0 v U'.heap L ∧ FrameEnd s o U' L ({ frames := 4, cells := 2, slots := 6, locals := 57 } : Room).cells ({ frames := 4, cells := 2, slots := 6, locals := 57 } : Room).slots) := ⟨_, rfl⟩
  rw [← hPP]
  have K0 : Keep h0 h0 [a1] := Keep.refl h0 _
  show Gl p.tables e below PP (s₁.setTop (mkF m 0 #[.val (.ref a1), .val (.ref a2), .val (.int (0 : Int32)), .val (.int (2 : Int32)), .val .null, .unset] []))
  refine Gl.pre (fun _ k => XS.aloadN X0.here hx rfl (hb hby d3_0) rfl rfl k) ?_
  show Gl p.tables e below PP (s₁.setTop (mkF m 1 #[.val (.ref a1), .val (.ref a2), .val (.int (0 : Int32)), .val (.int (2 : Int32)), .val .null, .unset] [(.ref a1)]))
  obtain ⟨T1, X1, e1, st1⟩ := initO X0 hx hZ hown (hw _ (List.mem_of_getElem? (i := 15) rfl)) (hw _ (List.mem_of_getElem? (i := 16) rfl)) (hw _ (List.mem_of_getElem? (i := 17) rfl)) e0 (g := (mkF m 1 #[.val (.ref a1), .val (.ref a2), .val (.int (0 : Int32)), .val (.int (2 : Int32)), .val .null, .unset] [(.ref a1)])) rfl (by rw [hml]; rfl) rfl (hb hby d3_1) (by decide) (W := 0) (by show 2 * 0 + _ ≤ _; exact Nat.le_of_eq rfl) (by decide)
  refine Gl.pre (fun _ k => st1 _ k) ?_
  show Gl p.tables e below PP (T1.setTop (mkF m 4 #[.val (.ref a1), .val (.ref a2), .val (.int (0 : Int32)), .val (.int (2 : Int32)), .val .null, .unset] []))
  refine Gl.pre (fun _ k => XS.iloadN X1.here hx rfl (hb hby d3_4) rfl k) ?_
  show Gl p.tables e below PP (T1.setTop (mkF m 5 #[.val (.ref a1), .val (.ref a2), .val (.int (0 : Int32)), .val (.int (2 : Int32)), .val .null, .unset] [(.int (2 : Int32))]))
  refine Gl.pre (fun _ k => XS.ifYes X1.here hx rfl (pc0 := 5) (pc' := 27) rfl (hb hby d3_5) rfl ((if0 _ _).trans (feq (show ¬ ((2 : Int32) = (0 : Int32)) from (by decide))).2) (by decide) (by decide) k) ?_
  show Gl p.tables e below PP (T1.setTop (mkF m 27 #[.val (.ref a1), .val (.ref a2), .val (.int (0 : Int32)), .val (.int (2 : Int32)), .val .null, .unset] []))
  obtain ⟨T2, X2, e2, st2⟩ := getS2 X1 hx hZ hown (host := "") (Or.inl (hw _ (List.mem_of_getElem? (i := 45) rfl))) Via.refl e1 (SBC.ext O_.2) (g := (mkF m 27 #[.val (.ref a1), .val (.ref a2), .val (.int (0 : Int32)), .val (.int (2 : Int32)), .val .null, .unset] [])) rfl (hb hby d3_27)
  refine Gl.pre (fun _ k => st2 _ k) ?_
  show Gl p.tables e below PP (T2.setTop (mkF m 30 #[.val (.ref a1), .val (.ref a2), .val (.int (0 : Int32)), .val (.int (2 : Int32)), .val .null, .unset] [(.int cs)]))
  refine Gl.pre (fun _ k => XS.ifNo X2.here hx rfl (hb hby d3_30) rfl ((if0 _ _).trans (feq (show ¬ (cs = (0 : Int32)) from hcs)).1) k) ?_
  show Gl p.tables e below PP (T2.setTop (mkF m 33 #[.val (.ref a1), .val (.ref a2), .val (.int (0 : Int32)), .val (.int (2 : Int32)), .val .null, .unset] []))
  refine Gl.pre (fun _ k => XS.aloadN X2.here hx rfl (hb hby d3_33) rfl rfl k) ?_
  show Gl p.tables e below PP (T2.setTop (mkF m 34 #[.val (.ref a1), .val (.ref a2), .val (.int (0 : Int32)), .val (.int (2 : Int32)), .val .null, .unset] [(.ref a2)]))
  refine Gl.pre (fun _ k => XS.iloadN X2.here hx rfl (hb hby d3_34) rfl k) ?_
  show Gl p.tables e below PP (T2.setTop (mkF m 35 #[.val (.ref a1), .val (.ref a2), .val (.int (0 : Int32)), .val (.int (2 : Int32)), .val .null, .unset] [(.int (0 : Int32)), (.ref a2)]))
  refine Gl.pre (fun _ k => XS.iloadN X2.here hx rfl (hb hby d3_35) rfl k) ?_
  show Gl p.tables e below PP (T2.setTop (mkF m 36 #[.val (.ref a1), .val (.ref a2), .val (.int (0 : Int32)), .val (.int (2 : Int32)), .val .null, .unset] [(.int (2 : Int32)), (.int (0 : Int32)), (.ref a2)]))
  obtain ⟨_, _, ⟨T3, L3, k3, n3⟩, -, X3, ⟨Lc3, hQ3, l3, y3, z3⟩, st3⟩ := Jvm.LawKit.callS X2 hx (y := (⟨"java/lang/StringUTF16", "compress", "([CII)[B"⟩ : MethodName)) hown (mvT hZ (hw _ (List.mem_of_getElem? (i := 55) rfl))) (mvT hZ (hw _ (List.mem_of_getElem? (i := 56) rfl))) (mvT hZ (hw _ (List.mem_of_getElem? (i := 57) rfl))) (mvT hZ (hw _ (List.mem_of_getElem? (i := 58) rfl))) (by decide) (backOf (W := 0) (rmcm2 l Z a0 hw [] a2 c0 c1 h0 n0 Z0 V_a2 hr0 hr1 SAD SHI SLO O_) hZ (hw _ (List.mem_of_getElem? (i := 58) rfl)) (hw _ (List.mem_of_getElem? (i := 57) rfl)) (by decide) (by decide)) (g := (mkF m 36 #[.val (.ref a1), .val (.ref a2), .val (.int (0 : Int32)), .val (.int (2 : Int32)), .val .null, .unset] [(.int (2 : Int32)), (.int (0 : Int32)), (.ref a2)])) rfl (by rw [hml]; rfl) (argsL := [(.ref a2), (.int (0 : Int32)), (.int (2 : Int32))]) (rest := []) (lenOf pd_4 rfl) rfl (by show 2 * 0 + _ ≤ _; exact Nat.le_of_eq rfl) (hb hby d3_36) (fun _ _ => ⟨rfl, e2, (by decide : 0 + 2 ≤ _), (by decide : 0 + 6 ≤ _)⟩)
  dsimp only [Pt.U, Pt.locs, Pt.cells, Pt.slots] at X3 l3 y3 z3 st3 hQ3
  subst l3 y3 z3
  obtain ⟨bc3, ys3, rfl, N3q, hz3, K3, hl3, V3q⟩ := hQ3
  have N3 := Fr.app N0 N3q
  refine Gl.pre (fun _ k => st3 _ k) ?_
  have own_ne_a1_bc3 : a1 ≠ bc3 := Nat.ne_of_lt (Nat.lt_of_lt_of_le E_a1.lt hz3)
  have own_ne_bc3_a1 := own_ne_a1_bc3.symm
  have own_ne_a2_bc3 : a2 ≠ bc3 := Nat.ne_of_lt (Nat.lt_of_lt_of_le V_a2.lt hz3)
  have own_ne_bc3_a2 := own_ne_a2_bc3.symm
  have g_bc3 : n0 ≤ bc3 := Nat.le_trans Z0 hz3
  have sz_bc3 : h0.size ≤ bc3 := Nat.le_trans K0.1 hz3
  have E_a1 := E_a1.keep K3
  have F_value_a1 := F_value_a1.keep K3 nin0
  have F_coder_a1 := F_coder_a1.keep K3 nin0
  have V_a2 := V_a2.keep K3 nin0
  have O_ := O_.keep K3 all0
  have Z3 : n0 ≤ T3.heap.size := Nat.le_trans Z0 K3.1
  have K3k := K0.trans K3 all0
  have V_bc3 := V3q
  show Gl p.tables e below PP (T3.setTop (mkF m 39 #[.val (.ref a1), .val (.ref a2), .val (.int (0 : Int32)), .val (.int (2 : Int32)), .val .null, .unset] [(.ref bc3)]))
  refine Gl.pre (fun _ k => XS.astore X3.here hx rfl (hb hby d3_39) rfl rfl (l' := #[.val (.ref a1), .val (.ref a2), .val (.int (0 : Int32)), .val (.int (2 : Int32)), .val .null, .val (.ref bc3)]) rfl k) ?_
  show Gl p.tables e below PP (T3.setTop (mkF m 41 #[.val (.ref a1), .val (.ref a2), .val (.int (0 : Int32)), .val (.int (2 : Int32)), .val .null, .val (.ref bc3)] []))
  refine Gl.pre (fun _ k => XS.aloadN X3.here hx rfl (hb hby d3_41) rfl rfl k) ?_
  show Gl p.tables e below PP (T3.setTop (mkF m 42 #[.val (.ref a1), .val (.ref a2), .val (.int (0 : Int32)), .val (.int (2 : Int32)), .val .null, .val (.ref bc3)] [(.ref a1)]))
  refine Gl.pre (fun _ k => XS.aload X3.here hx rfl (hb hby d3_42) rfl rfl k) ?_
  show Gl p.tables e below PP (T3.setTop (mkF m 44 #[.val (.ref a1), .val (.ref a2), .val (.int (0 : Int32)), .val (.int (2 : Int32)), .val .null, .val (.ref bc3)] [(.ref bc3), (.ref a1)]))
  refine Gl.pre (fun _ k => XS.iloadN X3.here hx rfl (hb hby d3_44) rfl k) ?_
  show Gl p.tables e below PP (T3.setTop (mkF m 45 #[.val (.ref a1), .val (.ref a2), .val (.int (0 : Int32)), .val (.int (2 : Int32)), .val .null, .val (.ref bc3)] [(.int (2 : Int32)), (.ref bc3), (.ref a1)]))
  rcases hl3 with hl3 | hl3
  · show Gl p.tables e below PP (T3.setTop (mkF m 45 #[.val (.ref a1), .val (.ref a2), .val (.int (0 : Int32)), .val (.int (2 : Int32)), .val .null, .val (.ref bc3)] [(.int (2 : Int32)), (.ref bc3), (.ref a1)]))
    obtain ⟨_, _, ⟨T4, L4, k4, n4⟩, -, X4, ⟨Lc4, hQ4, l4, y4, z4⟩, st4⟩ := Jvm.LawKit.callS X3 hx (y := (⟨"java/lang/StringUTF16", "coderFromArrayLen", "([BI)B"⟩ : MethodName)) hown (mvT hZ (hw _ (List.mem_of_getElem? (i := 62) rfl))) (mvT hZ (hw _ (List.mem_of_getElem? (i := 63) rfl))) (mvT hZ (hw _ (List.mem_of_getElem? (i := 57) rfl))) (mvT hZ (hw _ (List.mem_of_getElem? (i := 64) rfl))) (by decide) (backOf (W := 1) (rmcf2_2 l Z a0 hw [] bc3 ys3 T3.heap n0 Z3 V_bc3 hl3) hZ (hw _ (List.mem_of_getElem? (i := 64) rfl)) (hw _ (List.mem_of_getElem? (i := 57) rfl)) (by decide) (by decide)) (g := (mkF m 45 #[.val (.ref a1), .val (.ref a2), .val (.int (0 : Int32)), .val (.int (2 : Int32)), .val .null, .val (.ref bc3)] [(.int (2 : Int32)), (.ref bc3), (.ref a1)])) rfl (by rw [hml]; rfl) (argsL := [(.ref bc3), (.int (2 : Int32))]) (rest := [(.ref a1)]) (lenOf pd_6 rfl) rfl (by show 2 * 0 + _ ≤ _; exact Nat.le_of_eq rfl) (hb hby d3_45) (fun _ _ => ⟨rfl, rfl, (by decide : 2 + 0 ≤ _), (by decide : 6 + 0 ≤ _)⟩)
    dsimp only [Pt.U, Pt.locs, Pt.cells, Pt.slots] at X4 l4 y4 z4 st4 hQ4
    subst l4 y4 z4
    obtain ⟨rfl, N4q, e4⟩ := hQ4
    have N4 := Fr.app N3 N4q
    refine Gl.pre (fun _ k => st4 _ k) ?_
    show Gl p.tables e below PP (T4.setTop (mkF m 48 #[.val (.ref a1), .val (.ref a2), .val (.int (0 : Int32)), .val (.int (2 : Int32)), .val .null, .val (.ref bc3)] [(.int (0 : Int32)), (.ref a1)]))
    obtain ⟨T5, h5, X5, e5, W5, st5⟩ := putFN X4 hx hZ hown (hw _ (List.mem_of_getElem? (i := 25) rfl)) Via.refl e4 F_coder_a1 E_a1 (Or.inr ⟨(hw _ (List.mem_of_getElem? (i := 21) rfl)), rfl, hnm⟩) (hw _ (List.mem_of_getElem? (i := 5) rfl)) (ty := .byte) (v' := (.int (0 : Int32))) (by decide) rfl rfl (g := (mkF m 48 #[.val (.ref a1), .val (.ref a2), .val (.int (0 : Int32)), .val (.int (2 : Int32)), .val .null, .val (.ref bc3)] [(.int (0 : Int32)), (.ref a1)])) rfl rfl (hb hby d3_48)
    refine Gl.pre (fun _ k => st5 _ k) ?_
    have E_a1 := E_a1.wr W5
    have F_value_a1 := F_value_a1.other W5 (Or.inr (slot_ne (Or.inr (hw _ (List.mem_of_getElem? (i := 20) rfl))) (Or.inr (hw _ (List.mem_of_getElem? (i := 21) rfl))) (by decide) (t := (.array .byte)) (t' := .byte) (by decide) (by decide)))
    have F_coder_a1 := F_coder_a1.same W5
    have V_a2 := V_a2.other W5 (own_ne_a2_a1)
    have O_ := O_.wr W5 g_a1
    have V_bc3 := V_bc3.other W5 (own_ne_bc3_a1)
    have Z5 : n0 ≤ h5.size := by rw [W5.size]; exact Z3
    have N5 := Fr.snoc X5 N4 g_a1
    have K5 := K3k.wr W5 (Or.inl (List.mem_of_getElem? (i := 0) rfl))
    show Gl p.tables e below PP (T5.setTop (mkF m 51 #[.val (.ref a1), .val (.ref a2), .val (.int (0 : Int32)), .val (.int (2 : Int32)), .val .null, .val (.ref bc3)] []))
    refine Gl.pre (fun _ k => XS.aloadN X5.here hx rfl (hb hby d3_51) rfl rfl k) ?_
    show Gl p.tables e below PP (T5.setTop (mkF m 52 #[.val (.ref a1), .val (.ref a2), .val (.int (0 : Int32)), .val (.int (2 : Int32)), .val .null, .val (.ref bc3)] [(.ref a1)]))
    refine Gl.pre (fun _ k => XS.aload X5.here hx rfl (hb hby d3_52) rfl rfl k) ?_
    show Gl p.tables e below PP (T5.setTop (mkF m 54 #[.val (.ref a1), .val (.ref a2), .val (.int (0 : Int32)), .val (.int (2 : Int32)), .val .null, .val (.ref bc3)] [(.ref bc3), (.ref a1)]))
    obtain ⟨T6, h6, X6, e6, W6, st6⟩ := putF X5 hx hZ hown (host := "") (Or.inl (hw _ (List.mem_of_getElem? (i := 24) rfl))) Via.refl e5 F_value_a1 E_a1 (Or.inr ⟨(hw _ (List.mem_of_getElem? (i := 20) rfl)), rfl, hnm⟩) (hw _ (List.mem_of_getElem? (i := 5) rfl)) (ty := (.array .byte)) (by decide) rfl rfl (g := (mkF m 54 #[.val (.ref a1), .val (.ref a2), .val (.int (0 : Int32)), .val (.int (2 : Int32)), .val .null, .val (.ref bc3)] [(.ref bc3), (.ref a1)])) rfl rfl (hb hby d3_54)
    refine Gl.pre (fun _ k => st6 _ k) ?_
    have E_a1 := E_a1.wr W6
    have F_value_a1 := F_value_a1.same W6
    have F_coder_a1 := F_coder_a1.other W6 (Or.inr (slot_ne (Or.inr (hw _ (List.mem_of_getElem? (i := 21) rfl))) (Or.inr (hw _ (List.mem_of_getElem? (i := 20) rfl))) (by decide) (t := .byte) (t' := (.array .byte)) (by decide) (by decide)))
    have V_a2 := V_a2.other W6 (own_ne_a2_a1)
    have O_ := O_.wr W6 g_a1
    have V_bc3 := V_bc3.other W6 (own_ne_bc3_a1)
    have Z6 : n0 ≤ h6.size := by rw [W6.size]; exact Z5
    have N6 := Fr.snoc X6 N5 g_a1
    have K6 := K5.wr W6 (Or.inl (List.mem_of_getElem? (i := 0) rfl))
    show Gl p.tables e below PP (T6.setTop (mkF m 57 #[.val (.ref a1), .val (.ref a2), .val (.int (0 : Int32)), .val (.int (2 : Int32)), .val .null, .val (.ref bc3)] []))
    rw [hPP]
    refine own_finV (Q := (Qsi2 Z a1 a2 cs c0 c1 h0 n0)) X6 hx hlk Bd.returns (hb hby d3_57) ?_ (by decide) (by decide)
    show Qsi2 Z a1 a2 cs c0 c1 h0 n0 _ T6.heap _
    rw [e6]
    exact ⟨rfl, N6, K6, bc3, ys3, (0 : Int32), Or.inl rfl, by rw [hl3]; decide, own_ne_bc3_a1, F_value_a1, F_coder_a1, V_bc3⟩
  · show Gl p.tables e below PP (T3.setTop (mkF m 45 #[.val (.ref a1), .val (.ref a2), .val (.int (0 : Int32)), .val (.int (2 : Int32)), .val .null, .val (.ref bc3)] [(.int (2 : Int32)), (.ref bc3), (.ref a1)]))
    obtain ⟨_, _, ⟨T7, L7, k7, n7⟩, -, X7, ⟨Lc7, hQ7, l7, y7, z7⟩, st7⟩ := Jvm.LawKit.callS X3 hx (y := (⟨"java/lang/StringUTF16", "coderFromArrayLen", "([BI)B"⟩ : MethodName)) hown (mvT hZ (hw _ (List.mem_of_getElem? (i := 62) rfl))) (mvT hZ (hw _ (List.mem_of_getElem? (i := 63) rfl))) (mvT hZ (hw _ (List.mem_of_getElem? (i := 57) rfl))) (mvT hZ (hw _ (List.mem_of_getElem? (i := 64) rfl))) (by decide) (backOf (W := 1) (rmcf2_4 l Z a0 hw [] bc3 ys3 T3.heap n0 Z3 V_bc3 hl3) hZ (hw _ (List.mem_of_getElem? (i := 64) rfl)) (hw _ (List.mem_of_getElem? (i := 57) rfl)) (by decide) (by decide)) (g := (mkF m 45 #[.val (.ref a1), .val (.ref a2), .val (.int (0 : Int32)), .val (.int (2 : Int32)), .val .null, .val (.ref bc3)] [(.int (2 : Int32)), (.ref bc3), (.ref a1)])) rfl (by rw [hml]; rfl) (argsL := [(.ref bc3), (.int (2 : Int32))]) (rest := [(.ref a1)]) (lenOf pd_6 rfl) rfl (by show 2 * 0 + _ ≤ _; exact Nat.le_of_eq rfl) (hb hby d3_45) (fun _ _ => ⟨rfl, rfl, (by decide : 2 + 0 ≤ _), (by decide : 6 + 0 ≤ _)⟩)
    dsimp only [Pt.U, Pt.locs, Pt.cells, Pt.slots] at X7 l7 y7 z7 st7 hQ7
    subst l7 y7 z7
    obtain ⟨rfl, N7q, e7⟩ := hQ7
    have N7 := Fr.app N3 N7q
    refine Gl.pre (fun _ k => st7 _ k) ?_
    show Gl p.tables e below PP (T7.setTop (mkF m 48 #[.val (.ref a1), .val (.ref a2), .val (.int (0 : Int32)), .val (.int (2 : Int32)), .val .null, .val (.ref bc3)] [(.int (1 : Int32)), (.ref a1)]))
    obtain ⟨T8, h8, X8, e8, W8, st8⟩ := putFN X7 hx hZ hown (hw _ (List.mem_of_getElem? (i := 25) rfl)) Via.refl e7 F_coder_a1 E_a1 (Or.inr ⟨(hw _ (List.mem_of_getElem? (i := 21) rfl)), rfl, hnm⟩) (hw _ (List.mem_of_getElem? (i := 5) rfl)) (ty := .byte) (v' := (.int (1 : Int32))) (by decide) rfl rfl (g := (mkF m 48 #[.val (.ref a1), .val (.ref a2), .val (.int (0 : Int32)), .val (.int (2 : Int32)), .val .null, .val (.ref bc3)] [(.int (1 : Int32)), (.ref a1)])) rfl rfl (hb hby d3_48)
    refine Gl.pre (fun _ k => st8 _ k) ?_
    have E_a1 := E_a1.wr W8
    have F_value_a1 := F_value_a1.other W8 (Or.inr (slot_ne (Or.inr (hw _ (List.mem_of_getElem? (i := 20) rfl))) (Or.inr (hw _ (List.mem_of_getElem? (i := 21) rfl))) (by decide) (t := (.array .byte)) (t' := .byte) (by decide) (by decide)))
    have F_coder_a1 := F_coder_a1.same W8
    have V_a2 := V_a2.other W8 (own_ne_a2_a1)
    have O_ := O_.wr W8 g_a1
    have V_bc3 := V_bc3.other W8 (own_ne_bc3_a1)
    have Z8 : n0 ≤ h8.size := by rw [W8.size]; exact Z3
    have N8 := Fr.snoc X8 N7 g_a1
    have K8 := K3k.wr W8 (Or.inl (List.mem_of_getElem? (i := 0) rfl))
    show Gl p.tables e below PP (T8.setTop (mkF m 51 #[.val (.ref a1), .val (.ref a2), .val (.int (0 : Int32)), .val (.int (2 : Int32)), .val .null, .val (.ref bc3)] []))
    refine Gl.pre (fun _ k => XS.aloadN X8.here hx rfl (hb hby d3_51) rfl rfl k) ?_
    show Gl p.tables e below PP (T8.setTop (mkF m 52 #[.val (.ref a1), .val (.ref a2), .val (.int (0 : Int32)), .val (.int (2 : Int32)), .val .null, .val (.ref bc3)] [(.ref a1)]))
    refine Gl.pre (fun _ k => XS.aload X8.here hx rfl (hb hby d3_52) rfl rfl k) ?_
    show Gl p.tables e below PP (T8.setTop (mkF m 54 #[.val (.ref a1), .val (.ref a2), .val (.int (0 : Int32)), .val (.int (2 : Int32)), .val .null, .val (.ref bc3)] [(.ref bc3), (.ref a1)]))
    obtain ⟨T9, h9, X9, e9, W9, st9⟩ := putF X8 hx hZ hown (host := "") (Or.inl (hw _ (List.mem_of_getElem? (i := 24) rfl))) Via.refl e8 F_value_a1 E_a1 (Or.inr ⟨(hw _ (List.mem_of_getElem? (i := 20) rfl)), rfl, hnm⟩) (hw _ (List.mem_of_getElem? (i := 5) rfl)) (ty := (.array .byte)) (by decide) rfl rfl (g := (mkF m 54 #[.val (.ref a1), .val (.ref a2), .val (.int (0 : Int32)), .val (.int (2 : Int32)), .val .null, .val (.ref bc3)] [(.ref bc3), (.ref a1)])) rfl rfl (hb hby d3_54)
    refine Gl.pre (fun _ k => st9 _ k) ?_
    have E_a1 := E_a1.wr W9
    have F_value_a1 := F_value_a1.same W9
    have F_coder_a1 := F_coder_a1.other W9 (Or.inr (slot_ne (Or.inr (hw _ (List.mem_of_getElem? (i := 21) rfl))) (Or.inr (hw _ (List.mem_of_getElem? (i := 20) rfl))) (by decide) (t := .byte) (t' := (.array .byte)) (by decide) (by decide)))
    have V_a2 := V_a2.other W9 (own_ne_a2_a1)
    have O_ := O_.wr W9 g_a1
    have V_bc3 := V_bc3.other W9 (own_ne_bc3_a1)
    have Z9 : n0 ≤ h9.size := by rw [W9.size]; exact Z8
    have N9 := Fr.snoc X9 N8 g_a1
    have K9 := K8.wr W9 (Or.inl (List.mem_of_getElem? (i := 0) rfl))
    show Gl p.tables e below PP (T9.setTop (mkF m 57 #[.val (.ref a1), .val (.ref a2), .val (.int (0 : Int32)), .val (.int (2 : Int32)), .val .null, .val (.ref bc3)] []))
    rw [hPP]
    refine own_finV (Q := (Qsi2 Z a1 a2 cs c0 c1 h0 n0)) X9 hx hlk Bd.returns (hb hby d3_57) ?_ (by decide) (by decide)
    show Qsi2 Z a1 a2 cs c0 c1 h0 n0 _ T9.heap _
    rw [e9]
    exact ⟨rfl, N9, K9, bc3, ys3, (1 : Int32), Or.inr rfl, by rw [hl3]; decide, own_ne_bc3_a1, F_value_a1, F_coder_a1, V_bc3⟩
theorem ef_s2 (m : MethodId) (a1 : Addr) (a2 : Addr) (cs : Int32) (c0 : Int32) (c1 : Int32) : entryFrame m #[(.ref a1), (.ref a2)] 2 = mkF m 0 #[.val (.ref a1), .val (.ref a2)] [] := by first | (simp [entryFrame, mkF, argsToLocals, Value.category]; done) | rfl
def Qs2 (Z : State) (a1 : Addr) (a2 : Addr) (cs : Int32) (c0 : Int32) (c1 : Int32) (h0 : Heap) (n0 : Nat) (v : Option Value) (h : Heap) (L : List Loc) : Prop := v = none ∧ Fr n0 L ∧ Keep h0 h [a1] ∧ ∃ (vb : Addr) (ys : List Int32) (co : Int32), (co = 0 ∨ co = 1) ∧ (ys.length.toInt32 >>> (co &&& 31)) = (2 : Int32) ∧ vb ≠ a1 ∧ Fld Z h a1 "java/lang/String" "value" "[B" (.ref vb) ∧ Fld Z h a1 "java/lang/String" "coder" "B" (.int co) ∧ Bal Z h vb .byte ys
set_option maxRecDepth 65536 in
set_option maxHeartbeats 40000000 in
theorem rms2 (l : Launch) (Z : State) (a0 : Array Value) (hw : ∀ d ∈ tables_1, d.before a0 Z = true) (ws : List Jvm.Cond) (a1 : Addr) (a2 : Addr) (cs : Int32) (c0 : Int32) (c1 : Int32) (h0 : Heap) (n0 : Nat) (Z0 : n0 ≤ h0.size) (E_a1 : Exa Z h0 a1 "java/lang/String") (F_value_a1 : Fld Z h0 a1 "java/lang/String" "value" "[B" .null) (F_coder_a1 : Fld Z h0 a1 "java/lang/String" "coder" "B" (.int (0 : Int32))) (g_a1 : n0 ≤ a1) (V_a2 : Bal Z h0 a2 .char [c0, c1]) (own_ne_a1_a2 : a1 ≠ a2) (own_ne_a2_a1 : a2 ≠ a1) (hr0 : 0 ≤ c0.toInt ∧ c0.toInt < 65536) (hr1 : 0 ≤ c1.toInt ∧ c1.toInt < 65536) (SBC : Sta Z Z.heap "java/lang/String" "COMPACT_STRINGS" "Z" (.int cs)) (hcs : ¬ (cs = (0 : Int32))) (SAD : Sta Z Z.heap "java/lang/StringUTF16" "$assertionsDisabled" "Z" (.int (1 : Int32))) (SHI : Sta Z Z.heap "java/lang/StringUTF16" "HI_BYTE_SHIFT" "I" (.int (0 : Int32))) (SLO : Sta Z Z.heap "java/lang/StringUTF16" "LO_BYTE_SHIFT" "I" (.int (8 : Int32))) (O_ : Old Z n0 h0) :
    MetFree l (⟨"java/lang/String", "<init>", "([C)V"⟩ : MethodName) (head1 (Jvm.Cond.code (⟨"java/lang/String", "<init>", "([C)V"⟩ : MethodName) jdk_42_method_3_code 2 none :: ws) ({ frames := 5, cells := 2, slots := 6, locals := 74 } : Room)) (fun a U => a = #[(.ref a1), (.ref a2)] ∧ Z.Warmed39 U.vm ∧ U.heap = h0) (fun _ _ _ _ _ => True) (fun _ U o U' => ∃ v L, o = .returned v ∧ Qs2 Z a1 a2 cs c0 c1 h0 n0 v U'.heap L ∧ FrameEnd U o U' L ({ frames := 5, cells := 2, slots := 6, locals := 74 } : Room).cells ({ frames := 5, cells := 2, slots := 6, locals := 74 } : Room).slots) := by
  refine MetFree.of_bodySF (plainFor_of_name pn_2) hisR ?_
  intro p e s m args below meth c s₁ Bd hml0 hP hK
  obtain ⟨rfl, hZ, hh⟩ := hP
  have hx := Bd.exec
  have hby := Bd.bytes
  have hlk : meth.locks = false := BodyLoose.notSynchronized Bd
  have hml : c.maxLocals = 2 := hml0
  have hown : s.vm.findClass "java/lang/String" = some m.cls := findClass_of_methodNamed Bd.named
  have hnm := (name_of_methodNamed Bd.named Bd.method).1
  have X0 : Stand p l e ({ frames := 5, cells := 2, slots := 6, locals := 74 } : Room) s m #[(.ref a1), (.ref a2)] below meth c s₁ [] 0 0 := Stand.of_body Bd
  have e0 : s₁.heap = h0 := by rw [← hh, Bd.state]; rfl
  have N0 := Fr.nil n0
  show Gl p.tables e below (fun (o : Outcome) (U' : State) => ∃ v L, o = .returned v ∧ Qs2 Z a1 a2 cs c0 c1 h0 n0 v U'.heap L ∧ FrameEnd s o U' L ({ frames := 5, cells := 2, slots := 6, locals := 74 } : Room).cells ({ frames := 5, cells := 2, slots := 6, locals := 74 } : Room).slots) _
  refine Gl.pre (fun t k => castTop (ef_s2 m a1 a2 cs c0 c1) k) ?_
  obtain ⟨PP, hPP⟩ : ∃ P : Outcome → State → Prop, P = (fun (o : Outcome) (U' : State) => ∃ v L, o = .returned v ∧ Qs2 Z a1 a2 cs c0 c1 h0 n0 v U'.heap L ∧ FrameEnd s o U' L ({ frames := 5, cells := 2, slots := 6, locals := 74 } : Room).cells ({ frames := 5, cells := 2, slots := 6, locals := 74 } : Room).slots) := ⟨_, rfl⟩
  rw [← hPP]
  have K0 : Keep h0 h0 [a1] := Keep.refl h0 _
  show Gl p.tables e below PP (s₁.setTop (mkF m 0 #[.val (.ref a1), .val (.ref a2)] []))
  refine Gl.pre (fun _ k => XS.aloadN X0.here hx rfl (hb hby d2_0) rfl rfl k) ?_
  show Gl p.tables e below PP (s₁.setTop (mkF m 1 #[.val (.ref a1), .val (.ref a2)] [(.ref a1)]))
  refine Gl.pre (fun _ k => XS.aloadN X0.here hx rfl (hb hby d2_1) rfl rfl k) ?_
  show Gl p.tables e below PP (s₁.setTop (mkF m 2 #[.val (.ref a1), .val (.ref a2)] [(.ref a2), (.ref a1)]))
  refine Gl.pre (fun _ k => XS.iconst X0.here hx rfl (hb hby d2_2) k) ?_
  show Gl p.tables e below PP (s₁.setTop (mkF m 3 #[.val (.ref a1), .val (.ref a2)] [(.int (0 : Int32)), (.ref a2), (.ref a1)]))
  refine Gl.pre (fun _ k => XS.aloadN X0.here hx rfl (hb hby d2_3) rfl rfl k) ?_
  show Gl p.tables e below PP (s₁.setTop (mkF m 4 #[.val (.ref a1), .val (.ref a2)] [(.ref a2), (.int (0 : Int32)), (.ref a2), (.ref a1)]))
  refine Gl.pre (fun _ k => own_len X0 hx hZ e0 V_a2 (v := (2 : Int32)) rfl (g := (mkF m 4 #[.val (.ref a1), .val (.ref a2)] [(.ref a2), (.int (0 : Int32)), (.ref a2), (.ref a1)])) rfl rfl (hb hby d2_4) _ k) ?_
  show Gl p.tables e below PP (s₁.setTop (mkF m 5 #[.val (.ref a1), .val (.ref a2)] [(.int (2 : Int32)), (.int (0 : Int32)), (.ref a2), (.ref a1)]))
  refine Gl.pre (fun _ k => XS.aconstNull X0.here hx rfl (hb hby d2_5) k) ?_
  show Gl p.tables e below PP (s₁.setTop (mkF m 6 #[.val (.ref a1), .val (.ref a2)] [.null, (.int (2 : Int32)), (.int (0 : Int32)), (.ref a2), (.ref a1)]))
  obtain ⟨_, _, ⟨T1, L1, k1, n1⟩, -, X1, ⟨Lc1, hQ1, l1, y1, z1⟩, st1⟩ := X0.specialBack hx (y := (⟨"java/lang/String", "<init>", "([CIILjava/lang/Void;)V"⟩ : MethodName)) rfl hown (mvT hZ (hw _ (List.mem_of_getElem? (i := 11) rfl))) (mvT hZ (hw _ (List.mem_of_getElem? (i := 12) rfl))) (mvT hZ (hw _ (List.mem_of_getElem? (i := 14) rfl))) (by decide) (backOf (W := 0) (rmsi2 l Z a0 hw [] a1 a2 cs c0 c1 h0 n0 Z0 E_a1 F_value_a1 F_coder_a1 g_a1 V_a2 own_ne_a1_a2 own_ne_a2_a1 hr0 hr1 SBC hcs SAD SHI SLO O_) hZ (hw _ (List.mem_of_getElem? (i := 14) rfl)) (hw _ (List.mem_of_getElem? (i := 6) rfl)) (by decide) (by decide)) (g := (mkF m 6 #[.val (.ref a1), .val (.ref a2)] [.null, (.int (2 : Int32)), (.int (0 : Int32)), (.ref a2), (.ref a1)])) rfl (by rw [hml]; rfl) (Steps.refl _) (a := a1) (argsL := [(.ref a2), (.int (0 : Int32)), (.int (2 : Int32)), .null]) (rest := []) (lenOf pd_7 rfl) rfl (by show 2 * 0 + _ ≤ _; exact Nat.le_of_eq rfl) (hb hby d2_6) (fun _ _ => ⟨rfl, e0, (by decide : 0 + 2 ≤ _), (by decide : 0 + 6 ≤ _)⟩)
  dsimp only [Pt.U, Pt.locs, Pt.cells, Pt.slots] at X1 l1 y1 z1 st1 hQ1
  subst l1 y1 z1
  obtain ⟨rfl, N1q, K1, vb1, ys1, co1, hco1, hln1, hne1, Fv1, Fc1, Vs1⟩ := hQ1
  have N1 := Fr.app N0 N1q
  refine Gl.pre (fun _ k => st1.trans k) ?_
  have E_a1 := E_a1.keep K1
  have V_a2 := V_a2.keep K1 (ninS (own_ne_a2_a1) nin0)
  have O_ := O_.keep K1 (allS g_a1 all0)
  have Z1 : n0 ≤ T1.heap.size := Nat.le_trans Z0 K1.1
  have K1k := K0.trans K1 (allS (Or.inl (List.mem_of_getElem? (i := 0) rfl)) all0)
  have F_value_a1 := Fv1
  have F_coder_a1 := Fc1
  have V_vb1 := Vs1
  have own_ne_vb1_a1 := hne1
  have own_ne_a1_vb1 := hne1.symm
  show Gl p.tables e below PP (T1.setTop (mkF m 9 #[.val (.ref a1), .val (.ref a2)] []))
  rw [hPP]
  refine own_finV (Q := (Qs2 Z a1 a2 cs c0 c1 h0 n0)) X1 hx hlk Bd.returns (hb hby d2_9) ?_ (by decide) (by decide)
  show Qs2 Z a1 a2 cs c0 c1 h0 n0 _ T1.heap _
  exact ⟨rfl, N1, K1k, vb1, ys1, co1, hco1, hln1, hne1, F_value_a1, F_coder_a1, V_vb1⟩
theorem ef_si3 (m : MethodId) (a1 : Addr) (a2 : Addr) (cs : Int32) (c0 : Int32) (c1 : Int32) (c2 : Int32) : entryFrame m #[(.ref a1), (.ref a2), (.int (0 : Int32)), (.int (3 : Int32)), .null] 6 = mkF m 0 #[.val (.ref a1), .val (.ref a2), .val (.int (0 : Int32)), .val (.int (3 : Int32)), .val .null, .unset] [] := by first | (simp [entryFrame, mkF, argsToLocals, Value.category]; done) | rfl
def Qsi3 (Z : State) (a1 : Addr) (a2 : Addr) (cs : Int32) (c0 : Int32) (c1 : Int32) (c2 : Int32) (h0 : Heap) (n0 : Nat) (v : Option Value) (h : Heap) (L : List Loc) : Prop := v = none ∧ Fr n0 L ∧ Keep h0 h [a1] ∧ ∃ (vb : Addr) (ys : List Int32) (co : Int32), (co = 0 ∨ co = 1) ∧ (ys.length.toInt32 >>> (co &&& 31)) = (3 : Int32) ∧ vb ≠ a1 ∧ Fld Z h a1 "java/lang/String" "value" "[B" (.ref vb) ∧ Fld Z h a1 "java/lang/String" "coder" "B" (.int co) ∧ Bal Z h vb .byte ys
set_option maxRecDepth 65536 in
set_option maxHeartbeats 40000000 in
theorem rmsi3 (l : Launch) (Z : State) (a0 : Array Value) (hw : ∀ d ∈ tables_1, d.before a0 Z = true) (ws : List Jvm.Cond) (a1 : Addr) (a2 : Addr) (cs : Int32) (c0 : Int32) (c1 : Int32) (c2 : Int32) (h0 : Heap) (n0 : Nat) (Z0 : n0 ≤ h0.size) (E_a1 : Exa Z h0 a1 "java/lang/String") (F_value_a1 : Fld Z h0 a1 "java/lang/String" "value" "[B" .null) (F_coder_a1 : Fld Z h0 a1 "java/lang/String" "coder" "B" (.int (0 : Int32))) (g_a1 : n0 ≤ a1) (V_a2 : Bal Z h0 a2 .char [c0, c1, c2]) (own_ne_a1_a2 : a1 ≠ a2) (own_ne_a2_a1 : a2 ≠ a1) (hr0 : 0 ≤ c0.toInt ∧ c0.toInt < 65536) (hr1 : 0 ≤ c1.toInt ∧ c1.toInt < 65536) (hr2 : 0 ≤ c2.toInt ∧ c2.toInt < 65536) (SBC : Sta Z Z.heap "java/lang/String" "COMPACT_STRINGS" "Z" (.int cs)) (hcs : ¬ (cs = (0 : Int32))) (SAD : Sta Z Z.heap "java/lang/StringUTF16" "$assertionsDisabled" "Z" (.int (1 : Int32))) (SHI : Sta Z Z.heap "java/lang/StringUTF16" "HI_BYTE_SHIFT" "I" (.int (0 : Int32))) (SLO : Sta Z Z.heap "java/lang/StringUTF16" "LO_BYTE_SHIFT" "I" (.int (8 : Int32))) (O_ : Old Z n0 h0) :
    MetFree l (⟨"java/lang/String", "<init>", "([CIILjava/lang/Void;)V"⟩ : MethodName) (head1 (Jvm.Cond.code (⟨"java/lang/String", "<init>", "([CIILjava/lang/Void;)V"⟩ : MethodName) jdk_42_method_149_code 6 none :: ws) ({ frames := 4, cells := 2, slots := 9, locals := 57 } : Room)) (fun a U => a = #[(.ref a1), (.ref a2), (.int (0 : Int32)), (.int (3 : Int32)), .null] ∧ Z.Warmed39 U.vm ∧ U.heap = h0) (fun _ _ _ _ _ => True) (fun _ U o U' => ∃ v L, o = .returned v ∧ Qsi3 Z a1 a2 cs c0 c1 c2 h0 n0 v U'.heap L ∧ FrameEnd U o U' L ({ frames := 4, cells := 2, slots := 9, locals := 57 } : Room).cells ({ frames := 4, cells := 2, slots := 9, locals := 57 } : Room).slots) := by
  refine MetFree.of_bodySF (plainFor_of_name pn_3) hisR ?_
  intro p e s m args below meth c s₁ Bd hml0 hP hK
  obtain ⟨rfl, hZ, hh⟩ := hP
  have hx := Bd.exec
  have hby := Bd.bytes
  have hlk : meth.locks = false := BodyLoose.notSynchronized Bd
  have hml : c.maxLocals = 6 := hml0
  have hown : s.vm.findClass "java/lang/String" = some m.cls := findClass_of_methodNamed Bd.named
  have hnm := (name_of_methodNamed Bd.named Bd.method).1
  have X0 : Stand p l e ({ frames := 4, cells := 2, slots := 9, locals := 57 } : Room) s m #[(.ref a1), (.ref a2), (.int (0 : Int32)), (.int (3 : Int32)), .null] below meth c s₁ [] 0 0 := Stand.of_body Bd
  have e0 : s₁.heap = h0 := by rw [← hh, Bd.state]; rfl
  have N0 := Fr.nil n0
  show Gl p.tables e below (fun (o : Outcome) (U' : State) => ∃ v L, o = .returned v ∧ Qsi3 Z a1 a2 cs c0 c1 c2 h0 n0 v U'.heap L ∧ FrameEnd s o U' L ({ frames := 4, cells := 2, slots := 9, locals := 57 } : Room).cells ({ frames := 4, cells := 2, slots := 9, locals := 57 } : Room).slots) _
  refine Gl.pre (fun t k => castTop (ef_si3 m a1 a2 cs c0 c1 c2) k) ?_
  obtain ⟨PP, hPP⟩ : ∃ P : Outcome → State → Prop, P = (fun (o : Outcome) (U' : State) => ∃ v L, o = .returned v ∧ Qsi3 Z a1 a2 cs c0 c1 c2 h0 n0 v U'.heap L ∧ FrameEnd s o U' L ({ frames := 4, cells := 2, slots := 9, locals := 57 } : Room).cells ({ frames := 4, cells := 2, slots := 9, locals := 57 } : Room).slots) := ⟨_, rfl⟩
  rw [← hPP]
  have K0 : Keep h0 h0 [a1] := Keep.refl h0 _
  show Gl p.tables e below PP (s₁.setTop (mkF m 0 #[.val (.ref a1), .val (.ref a2), .val (.int (0 : Int32)), .val (.int (3 : Int32)), .val .null, .unset] []))
  refine Gl.pre (fun _ k => XS.aloadN X0.here hx rfl (hb hby d3_0) rfl rfl k) ?_
  show Gl p.tables e below PP (s₁.setTop (mkF m 1 #[.val (.ref a1), .val (.ref a2), .val (.int (0 : Int32)), .val (.int (3 : Int32)), .val .null, .unset] [(.ref a1)]))
  obtain ⟨T1, X1, e1, st1⟩ := initO X0 hx hZ hown (hw _ (List.mem_of_getElem? (i := 15) rfl)) (hw _ (List.mem_of_getElem? (i := 16) rfl)) (hw _ (List.mem_of_getElem? (i := 17) rfl)) e0 (g := (mkF m 1 #[.val (.ref a1), .val (.ref a2), .val (.int (0 : Int32)), .val (.int (3 : Int32)), .val .null, .unset] [(.ref a1)])) rfl (by rw [hml]; rfl) rfl (hb hby d3_1) (by decide) (W := 0) (by show 2 * 0 + _ ≤ _; exact Nat.le_of_eq rfl) (by decide)
  refine Gl.pre (fun _ k => st1 _ k) ?_
  show Gl p.tables e below PP (T1.setTop (mkF m 4 #[.val (.ref a1), .val (.ref a2), .val (.int (0 : Int32)), .val (.int (3 : Int32)), .val .null, .unset] []))
  refine Gl.pre (fun _ k => XS.iloadN X1.here hx rfl (hb hby d3_4) rfl k) ?_
  show Gl p.tables e below PP (T1.setTop (mkF m 5 #[.val (.ref a1), .val (.ref a2), .val (.int (0 : Int32)), .val (.int (3 : Int32)), .val .null, .unset] [(.int (3 : Int32))]))
  refine Gl.pre (fun _ k => XS.ifYes X1.here hx rfl (pc0 := 5) (pc' := 27) rfl (hb hby d3_5) rfl ((if0 _ _).trans (feq (show ¬ ((3 : Int32) = (0 : Int32)) from (by decide))).2) (by decide) (by decide) k) ?_
  show Gl p.tables e below PP (T1.setTop (mkF m 27 #[.val (.ref a1), .val (.ref a2), .val (.int (0 : Int32)), .val (.int (3 : Int32)), .val .null, .unset] []))
  obtain ⟨T2, X2, e2, st2⟩ := getS2 X1 hx hZ hown (host := "") (Or.inl (hw _ (List.mem_of_getElem? (i := 45) rfl))) Via.refl e1 (SBC.ext O_.2) (g := (mkF m 27 #[.val (.ref a1), .val (.ref a2), .val (.int (0 : Int32)), .val (.int (3 : Int32)), .val .null, .unset] [])) rfl (hb hby d3_27)
  refine Gl.pre (fun _ k => st2 _ k) ?_
  show Gl p.tables e below PP (T2.setTop (mkF m 30 #[.val (.ref a1), .val (.ref a2), .val (.int (0 : Int32)), .val (.int (3 : Int32)), .val .null, .unset] [(.int cs)]))
  refine Gl.pre (fun _ k => XS.ifNo X2.here hx rfl (hb hby d3_30) rfl ((if0 _ _).trans (feq (show ¬ (cs = (0 : Int32)) from hcs)).1) k) ?_
  show Gl p.tables e below PP (T2.setTop (mkF m 33 #[.val (.ref a1), .val (.ref a2), .val (.int (0 : Int32)), .val (.int (3 : Int32)), .val .null, .unset] []))
  refine Gl.pre (fun _ k => XS.aloadN X2.here hx rfl (hb hby d3_33) rfl rfl k) ?_
  show Gl p.tables e below PP (T2.setTop (mkF m 34 #[.val (.ref a1), .val (.ref a2), .val (.int (0 : Int32)), .val (.int (3 : Int32)), .val .null, .unset] [(.ref a2)]))
  refine Gl.pre (fun _ k => XS.iloadN X2.here hx rfl (hb hby d3_34) rfl k) ?_
  show Gl p.tables e below PP (T2.setTop (mkF m 35 #[.val (.ref a1), .val (.ref a2), .val (.int (0 : Int32)), .val (.int (3 : Int32)), .val .null, .unset] [(.int (0 : Int32)), (.ref a2)]))
  refine Gl.pre (fun _ k => XS.iloadN X2.here hx rfl (hb hby d3_35) rfl k) ?_
  show Gl p.tables e below PP (T2.setTop (mkF m 36 #[.val (.ref a1), .val (.ref a2), .val (.int (0 : Int32)), .val (.int (3 : Int32)), .val .null, .unset] [(.int (3 : Int32)), (.int (0 : Int32)), (.ref a2)]))
  obtain ⟨_, _, ⟨T3, L3, k3, n3⟩, -, X3, ⟨Lc3, hQ3, l3, y3, z3⟩, st3⟩ := Jvm.LawKit.callS X2 hx (y := (⟨"java/lang/StringUTF16", "compress", "([CII)[B"⟩ : MethodName)) hown (mvT hZ (hw _ (List.mem_of_getElem? (i := 55) rfl))) (mvT hZ (hw _ (List.mem_of_getElem? (i := 56) rfl))) (mvT hZ (hw _ (List.mem_of_getElem? (i := 57) rfl))) (mvT hZ (hw _ (List.mem_of_getElem? (i := 58) rfl))) (by decide) (backOf (W := 0) (rmcm3 l Z a0 hw [] a2 c0 c1 c2 h0 n0 Z0 V_a2 hr0 hr1 hr2 SAD SHI SLO O_) hZ (hw _ (List.mem_of_getElem? (i := 58) rfl)) (hw _ (List.mem_of_getElem? (i := 57) rfl)) (by decide) (by decide)) (g := (mkF m 36 #[.val (.ref a1), .val (.ref a2), .val (.int (0 : Int32)), .val (.int (3 : Int32)), .val .null, .unset] [(.int (3 : Int32)), (.int (0 : Int32)), (.ref a2)])) rfl (by rw [hml]; rfl) (argsL := [(.ref a2), (.int (0 : Int32)), (.int (3 : Int32))]) (rest := []) (lenOf pd_4 rfl) rfl (by show 2 * 0 + _ ≤ _; exact Nat.le_of_eq rfl) (hb hby d3_36) (fun _ _ => ⟨rfl, e2, (by decide : 0 + 2 ≤ _), (by decide : 0 + 9 ≤ _)⟩)
  dsimp only [Pt.U, Pt.locs, Pt.cells, Pt.slots] at X3 l3 y3 z3 st3 hQ3
  subst l3 y3 z3
  obtain ⟨bc3, ys3, rfl, N3q, hz3, K3, hl3, V3q⟩ := hQ3
  have N3 := Fr.app N0 N3q
  refine Gl.pre (fun _ k => st3 _ k) ?_
  have own_ne_a1_bc3 : a1 ≠ bc3 := Nat.ne_of_lt (Nat.lt_of_lt_of_le E_a1.lt hz3)
  have own_ne_bc3_a1 := own_ne_a1_bc3.symm
  have own_ne_a2_bc3 : a2 ≠ bc3 := Nat.ne_of_lt (Nat.lt_of_lt_of_le V_a2.lt hz3)
  have own_ne_bc3_a2 := own_ne_a2_bc3.symm
  have g_bc3 : n0 ≤ bc3 := Nat.le_trans Z0 hz3
  have sz_bc3 : h0.size ≤ bc3 := Nat.le_trans K0.1 hz3
  have E_a1 := E_a1.keep K3
  have F_value_a1 := F_value_a1.keep K3 nin0
  have F_coder_a1 := F_coder_a1.keep K3 nin0
  have V_a2 := V_a2.keep K3 nin0
  have O_ := O_.keep K3 all0
  have Z3 : n0 ≤ T3.heap.size := Nat.le_trans Z0 K3.1
  have K3k := K0.trans K3 all0
  have V_bc3 := V3q
  show Gl p.tables e below PP (T3.setTop (mkF m 39 #[.val (.ref a1), .val (.ref a2), .val (.int (0 : Int32)), .val (.int (3 : Int32)), .val .null, .unset] [(.ref bc3)]))
  refine Gl.pre (fun _ k => XS.astore X3.here hx rfl (hb hby d3_39) rfl rfl (l' := #[.val (.ref a1), .val (.ref a2), .val (.int (0 : Int32)), .val (.int (3 : Int32)), .val .null, .val (.ref bc3)]) rfl k) ?_
  show Gl p.tables e below PP (T3.setTop (mkF m 41 #[.val (.ref a1), .val (.ref a2), .val (.int (0 : Int32)), .val (.int (3 : Int32)), .val .null, .val (.ref bc3)] []))
  refine Gl.pre (fun _ k => XS.aloadN X3.here hx rfl (hb hby d3_41) rfl rfl k) ?_
  show Gl p.tables e below PP (T3.setTop (mkF m 42 #[.val (.ref a1), .val (.ref a2), .val (.int (0 : Int32)), .val (.int (3 : Int32)), .val .null, .val (.ref bc3)] [(.ref a1)]))
  refine Gl.pre (fun _ k => XS.aload X3.here hx rfl (hb hby d3_42) rfl rfl k) ?_
  show Gl p.tables e below PP (T3.setTop (mkF m 44 #[.val (.ref a1), .val (.ref a2), .val (.int (0 : Int32)), .val (.int (3 : Int32)), .val .null, .val (.ref bc3)] [(.ref bc3), (.ref a1)]))
  refine Gl.pre (fun _ k => XS.iloadN X3.here hx rfl (hb hby d3_44) rfl k) ?_
  show Gl p.tables e below PP (T3.setTop (mkF m 45 #[.val (.ref a1), .val (.ref a2), .val (.int (0 : Int32)), .val (.int (3 : Int32)), .val .null, .val (.ref bc3)] [(.int (3 : Int32)), (.ref bc3), (.ref a1)]))
  rcases hl3 with hl3 | hl3
  · show Gl p.tables e below PP (T3.setTop (mkF m 45 #[.val (.ref a1), .val (.ref a2), .val (.int (0 : Int32)), .val (.int (3 : Int32)), .val .null, .val (.ref bc3)] [(.int (3 : Int32)), (.ref bc3), (.ref a1)]))
    obtain ⟨_, _, ⟨T4, L4, k4, n4⟩, -, X4, ⟨Lc4, hQ4, l4, y4, z4⟩, st4⟩ := Jvm.LawKit.callS X3 hx (y := (⟨"java/lang/StringUTF16", "coderFromArrayLen", "([BI)B"⟩ : MethodName)) hown (mvT hZ (hw _ (List.mem_of_getElem? (i := 62) rfl))) (mvT hZ (hw _ (List.mem_of_getElem? (i := 63) rfl))) (mvT hZ (hw _ (List.mem_of_getElem? (i := 57) rfl))) (mvT hZ (hw _ (List.mem_of_getElem? (i := 64) rfl))) (by decide) (backOf (W := 1) (rmcf3_3 l Z a0 hw [] bc3 ys3 T3.heap n0 Z3 V_bc3 hl3) hZ (hw _ (List.mem_of_getElem? (i := 64) rfl)) (hw _ (List.mem_of_getElem? (i := 57) rfl)) (by decide) (by decide)) (g := (mkF m 45 #[.val (.ref a1), .val (.ref a2), .val (.int (0 : Int32)), .val (.int (3 : Int32)), .val .null, .val (.ref bc3)] [(.int (3 : Int32)), (.ref bc3), (.ref a1)])) rfl (by rw [hml]; rfl) (argsL := [(.ref bc3), (.int (3 : Int32))]) (rest := [(.ref a1)]) (lenOf pd_6 rfl) rfl (by show 2 * 0 + _ ≤ _; exact Nat.le_of_eq rfl) (hb hby d3_45) (fun _ _ => ⟨rfl, rfl, (by decide : 2 + 0 ≤ _), (by decide : 9 + 0 ≤ _)⟩)
    dsimp only [Pt.U, Pt.locs, Pt.cells, Pt.slots] at X4 l4 y4 z4 st4 hQ4
    subst l4 y4 z4
    obtain ⟨rfl, N4q, e4⟩ := hQ4
    have N4 := Fr.app N3 N4q
    refine Gl.pre (fun _ k => st4 _ k) ?_
    show Gl p.tables e below PP (T4.setTop (mkF m 48 #[.val (.ref a1), .val (.ref a2), .val (.int (0 : Int32)), .val (.int (3 : Int32)), .val .null, .val (.ref bc3)] [(.int (0 : Int32)), (.ref a1)]))
    obtain ⟨T5, h5, X5, e5, W5, st5⟩ := putFN X4 hx hZ hown (hw _ (List.mem_of_getElem? (i := 25) rfl)) Via.refl e4 F_coder_a1 E_a1 (Or.inr ⟨(hw _ (List.mem_of_getElem? (i := 21) rfl)), rfl, hnm⟩) (hw _ (List.mem_of_getElem? (i := 5) rfl)) (ty := .byte) (v' := (.int (0 : Int32))) (by decide) rfl rfl (g := (mkF m 48 #[.val (.ref a1), .val (.ref a2), .val (.int (0 : Int32)), .val (.int (3 : Int32)), .val .null, .val (.ref bc3)] [(.int (0 : Int32)), (.ref a1)])) rfl rfl (hb hby d3_48)
    refine Gl.pre (fun _ k => st5 _ k) ?_
    have E_a1 := E_a1.wr W5
    have F_value_a1 := F_value_a1.other W5 (Or.inr (slot_ne (Or.inr (hw _ (List.mem_of_getElem? (i := 20) rfl))) (Or.inr (hw _ (List.mem_of_getElem? (i := 21) rfl))) (by decide) (t := (.array .byte)) (t' := .byte) (by decide) (by decide)))
    have F_coder_a1 := F_coder_a1.same W5
    have V_a2 := V_a2.other W5 (own_ne_a2_a1)
    have O_ := O_.wr W5 g_a1
    have V_bc3 := V_bc3.other W5 (own_ne_bc3_a1)
    have Z5 : n0 ≤ h5.size := by rw [W5.size]; exact Z3
    have N5 := Fr.snoc X5 N4 g_a1
    have K5 := K3k.wr W5 (Or.inl (List.mem_of_getElem? (i := 0) rfl))
    show Gl p.tables e below PP (T5.setTop (mkF m 51 #[.val (.ref a1), .val (.ref a2), .val (.int (0 : Int32)), .val (.int (3 : Int32)), .val .null, .val (.ref bc3)] []))
    refine Gl.pre (fun _ k => XS.aloadN X5.here hx rfl (hb hby d3_51) rfl rfl k) ?_
    show Gl p.tables e below PP (T5.setTop (mkF m 52 #[.val (.ref a1), .val (.ref a2), .val (.int (0 : Int32)), .val (.int (3 : Int32)), .val .null, .val (.ref bc3)] [(.ref a1)]))
    refine Gl.pre (fun _ k => XS.aload X5.here hx rfl (hb hby d3_52) rfl rfl k) ?_
    show Gl p.tables e below PP (T5.setTop (mkF m 54 #[.val (.ref a1), .val (.ref a2), .val (.int (0 : Int32)), .val (.int (3 : Int32)), .val .null, .val (.ref bc3)] [(.ref bc3), (.ref a1)]))
    obtain ⟨T6, h6, X6, e6, W6, st6⟩ := putF X5 hx hZ hown (host := "") (Or.inl (hw _ (List.mem_of_getElem? (i := 24) rfl))) Via.refl e5 F_value_a1 E_a1 (Or.inr ⟨(hw _ (List.mem_of_getElem? (i := 20) rfl)), rfl, hnm⟩) (hw _ (List.mem_of_getElem? (i := 5) rfl)) (ty := (.array .byte)) (by decide) rfl rfl (g := (mkF m 54 #[.val (.ref a1), .val (.ref a2), .val (.int (0 : Int32)), .val (.int (3 : Int32)), .val .null, .val (.ref bc3)] [(.ref bc3), (.ref a1)])) rfl rfl (hb hby d3_54)
    refine Gl.pre (fun _ k => st6 _ k) ?_
    have E_a1 := E_a1.wr W6
    have F_value_a1 := F_value_a1.same W6
    have F_coder_a1 := F_coder_a1.other W6 (Or.inr (slot_ne (Or.inr (hw _ (List.mem_of_getElem? (i := 21) rfl))) (Or.inr (hw _ (List.mem_of_getElem? (i := 20) rfl))) (by decide) (t := .byte) (t' := (.array .byte)) (by decide) (by decide)))
    have V_a2 := V_a2.other W6 (own_ne_a2_a1)
    have O_ := O_.wr W6 g_a1
    have V_bc3 := V_bc3.other W6 (own_ne_bc3_a1)
    have Z6 : n0 ≤ h6.size := by rw [W6.size]; exact Z5
    have N6 := Fr.snoc X6 N5 g_a1
    have K6 := K5.wr W6 (Or.inl (List.mem_of_getElem? (i := 0) rfl))
    show Gl p.tables e below PP (T6.setTop (mkF m 57 #[.val (.ref a1), .val (.ref a2), .val (.int (0 : Int32)), .val (.int (3 : Int32)), .val .null, .val (.ref bc3)] []))
    rw [hPP]
    refine own_finV (Q := (Qsi3 Z a1 a2 cs c0 c1 c2 h0 n0)) X6 hx hlk Bd.returns (hb hby d3_57) ?_ (by decide) (by decide)
    show Qsi3 Z a1 a2 cs c0 c1 c2 h0 n0 _ T6.heap _
    rw [e6]
    exact ⟨rfl, N6, K6, bc3, ys3, (0 : Int32), Or.inl rfl, by rw [hl3]; decide, own_ne_bc3_a1, F_value_a1, F_coder_a1, V_bc3⟩
  · show Gl p.tables e below PP (T3.setTop (mkF m 45 #[.val (.ref a1), .val (.ref a2), .val (.int (0 : Int32)), .val (.int (3 : Int32)), .val .null, .val (.ref bc3)] [(.int (3 : Int32)), (.ref bc3), (.ref a1)]))
    obtain ⟨_, _, ⟨T7, L7, k7, n7⟩, -, X7, ⟨Lc7, hQ7, l7, y7, z7⟩, st7⟩ := Jvm.LawKit.callS X3 hx (y := (⟨"java/lang/StringUTF16", "coderFromArrayLen", "([BI)B"⟩ : MethodName)) hown (mvT hZ (hw _ (List.mem_of_getElem? (i := 62) rfl))) (mvT hZ (hw _ (List.mem_of_getElem? (i := 63) rfl))) (mvT hZ (hw _ (List.mem_of_getElem? (i := 57) rfl))) (mvT hZ (hw _ (List.mem_of_getElem? (i := 64) rfl))) (by decide) (backOf (W := 1) (rmcf3_6 l Z a0 hw [] bc3 ys3 T3.heap n0 Z3 V_bc3 hl3) hZ (hw _ (List.mem_of_getElem? (i := 64) rfl)) (hw _ (List.mem_of_getElem? (i := 57) rfl)) (by decide) (by decide)) (g := (mkF m 45 #[.val (.ref a1), .val (.ref a2), .val (.int (0 : Int32)), .val (.int (3 : Int32)), .val .null, .val (.ref bc3)] [(.int (3 : Int32)), (.ref bc3), (.ref a1)])) rfl (by rw [hml]; rfl) (argsL := [(.ref bc3), (.int (3 : Int32))]) (rest := [(.ref a1)]) (lenOf pd_6 rfl) rfl (by show 2 * 0 + _ ≤ _; exact Nat.le_of_eq rfl) (hb hby d3_45) (fun _ _ => ⟨rfl, rfl, (by decide : 2 + 0 ≤ _), (by decide : 9 + 0 ≤ _)⟩)
    dsimp only [Pt.U, Pt.locs, Pt.cells, Pt.slots] at X7 l7 y7 z7 st7 hQ7
    subst l7 y7 z7
    obtain ⟨rfl, N7q, e7⟩ := hQ7
    have N7 := Fr.app N3 N7q
    refine Gl.pre (fun _ k => st7 _ k) ?_
    show Gl p.tables e below PP (T7.setTop (mkF m 48 #[.val (.ref a1), .val (.ref a2), .val (.int (0 : Int32)), .val (.int (3 : Int32)), .val .null, .val (.ref bc3)] [(.int (1 : Int32)), (.ref a1)]))
    obtain ⟨T8, h8, X8, e8, W8, st8⟩ := putFN X7 hx hZ hown (hw _ (List.mem_of_getElem? (i := 25) rfl)) Via.refl e7 F_coder_a1 E_a1 (Or.inr ⟨(hw _ (List.mem_of_getElem? (i := 21) rfl)), rfl, hnm⟩) (hw _ (List.mem_of_getElem? (i := 5) rfl)) (ty := .byte) (v' := (.int (1 : Int32))) (by decide) rfl rfl (g := (mkF m 48 #[.val (.ref a1), .val (.ref a2), .val (.int (0 : Int32)), .val (.int (3 : Int32)), .val .null, .val (.ref bc3)] [(.int (1 : Int32)), (.ref a1)])) rfl rfl (hb hby d3_48)
    refine Gl.pre (fun _ k => st8 _ k) ?_
    have E_a1 := E_a1.wr W8
    have F_value_a1 := F_value_a1.other W8 (Or.inr (slot_ne (Or.inr (hw _ (List.mem_of_getElem? (i := 20) rfl))) (Or.inr (hw _ (List.mem_of_getElem? (i := 21) rfl))) (by decide) (t := (.array .byte)) (t' := .byte) (by decide) (by decide)))
    have F_coder_a1 := F_coder_a1.same W8
    have V_a2 := V_a2.other W8 (own_ne_a2_a1)
    have O_ := O_.wr W8 g_a1
    have V_bc3 := V_bc3.other W8 (own_ne_bc3_a1)
    have Z8 : n0 ≤ h8.size := by rw [W8.size]; exact Z3
    have N8 := Fr.snoc X8 N7 g_a1
    have K8 := K3k.wr W8 (Or.inl (List.mem_of_getElem? (i := 0) rfl))
    show Gl p.tables e below PP (T8.setTop (mkF m 51 #[.val (.ref a1), .val (.ref a2), .val (.int (0 : Int32)), .val (.int (3 : Int32)), .val .null, .val (.ref bc3)] []))
    refine Gl.pre (fun _ k => XS.aloadN X8.here hx rfl (hb hby d3_51) rfl rfl k) ?_
    show Gl p.tables e below PP (T8.setTop (mkF m 52 #[.val (.ref a1), .val (.ref a2), .val (.int (0 : Int32)), .val (.int (3 : Int32)), .val .null, .val (.ref bc3)] [(.ref a1)]))
    refine Gl.pre (fun _ k => XS.aload X8.here hx rfl (hb hby d3_52) rfl rfl k) ?_
    show Gl p.tables e below PP (T8.setTop (mkF m 54 #[.val (.ref a1), .val (.ref a2), .val (.int (0 : Int32)), .val (.int (3 : Int32)), .val .null, .val (.ref bc3)] [(.ref bc3), (.ref a1)]))
    obtain ⟨T9, h9, X9, e9, W9, st9⟩ := putF X8 hx hZ hown (host := "") (Or.inl (hw _ (List.mem_of_getElem? (i := 24) rfl))) Via.refl e8 F_value_a1 E_a1 (Or.inr ⟨(hw _ (List.mem_of_getElem? (i := 20) rfl)), rfl, hnm⟩) (hw _ (List.mem_of_getElem? (i := 5) rfl)) (ty := (.array .byte)) (by decide) rfl rfl (g := (mkF m 54 #[.val (.ref a1), .val (.ref a2), .val (.int (0 : Int32)), .val (.int (3 : Int32)), .val .null, .val (.ref bc3)] [(.ref bc3), (.ref a1)])) rfl rfl (hb hby d3_54)
    refine Gl.pre (fun _ k => st9 _ k) ?_
    have E_a1 := E_a1.wr W9
    have F_value_a1 := F_value_a1.same W9
    have F_coder_a1 := F_coder_a1.other W9 (Or.inr (slot_ne (Or.inr (hw _ (List.mem_of_getElem? (i := 21) rfl))) (Or.inr (hw _ (List.mem_of_getElem? (i := 20) rfl))) (by decide) (t := .byte) (t' := (.array .byte)) (by decide) (by decide)))
    have V_a2 := V_a2.other W9 (own_ne_a2_a1)
    have O_ := O_.wr W9 g_a1
    have V_bc3 := V_bc3.other W9 (own_ne_bc3_a1)
    have Z9 : n0 ≤ h9.size := by rw [W9.size]; exact Z8
    have N9 := Fr.snoc X9 N8 g_a1
    have K9 := K8.wr W9 (Or.inl (List.mem_of_getElem? (i := 0) rfl))
    show Gl p.tables e below PP (T9.setTop (mkF m 57 #[.val (.ref a1), .val (.ref a2), .val (.int (0 : Int32)), .val (.int (3 : Int32)), .val .null, .val (.ref bc3)] []))
    rw [hPP]
    refine own_finV (Q := (Qsi3 Z a1 a2 cs c0 c1 c2 h0 n0)) X9 hx hlk Bd.returns (hb hby d3_57) ?_ (by decide) (by decide)
    show Qsi3 Z a1 a2 cs c0 c1 c2 h0 n0 _ T9.heap _
    rw [e9]
    exact ⟨rfl, N9, K9, bc3, ys3, (1 : Int32), Or.inr rfl, by rw [hl3]; decide, own_ne_bc3_a1, F_value_a1, F_coder_a1, V_bc3⟩
theorem ef_s3 (m : MethodId) (a1 : Addr) (a2 : Addr) (cs : Int32) (c0 : Int32) (c1 : Int32) (c2 : Int32) : entryFrame m #[(.ref a1), (.ref a2)] 2 = mkF m 0 #[.val (.ref a1), .val (.ref a2)] [] := by first | (simp [entryFrame, mkF, argsToLocals, Value.category]; done) | rfl
def Qs3 (Z : State) (a1 : Addr) (a2 : Addr) (cs : Int32) (c0 : Int32) (c1 : Int32) (c2 : Int32) (h0 : Heap) (n0 : Nat) (v : Option Value) (h : Heap) (L : List Loc) : Prop := v = none ∧ Fr n0 L ∧ Keep h0 h [a1] ∧ ∃ (vb : Addr) (ys : List Int32) (co : Int32), (co = 0 ∨ co = 1) ∧ (ys.length.toInt32 >>> (co &&& 31)) = (3 : Int32) ∧ vb ≠ a1 ∧ Fld Z h a1 "java/lang/String" "value" "[B" (.ref vb) ∧ Fld Z h a1 "java/lang/String" "coder" "B" (.int co) ∧ Bal Z h vb .byte ys
set_option maxRecDepth 65536 in
set_option maxHeartbeats 40000000 in
theorem rms3 (l : Launch) (Z : State) (a0 : Array Value) (hw : ∀ d ∈ tables_1, d.before a0 Z = true) (ws : List Jvm.Cond) (a1 : Addr) (a2 : Addr) (cs : Int32) (c0 : Int32) (c1 : Int32) (c2 : Int32) (h0 : Heap) (n0 : Nat) (Z0 : n0 ≤ h0.size) (E_a1 : Exa Z h0 a1 "java/lang/String") (F_value_a1 : Fld Z h0 a1 "java/lang/String" "value" "[B" .null) (F_coder_a1 : Fld Z h0 a1 "java/lang/String" "coder" "B" (.int (0 : Int32))) (g_a1 : n0 ≤ a1) (V_a2 : Bal Z h0 a2 .char [c0, c1, c2]) (own_ne_a1_a2 : a1 ≠ a2) (own_ne_a2_a1 : a2 ≠ a1) (hr0 : 0 ≤ c0.toInt ∧ c0.toInt < 65536) (hr1 : 0 ≤ c1.toInt ∧ c1.toInt < 65536) (hr2 : 0 ≤ c2.toInt ∧ c2.toInt < 65536) (SBC : Sta Z Z.heap "java/lang/String" "COMPACT_STRINGS" "Z" (.int cs)) (hcs : ¬ (cs = (0 : Int32))) (SAD : Sta Z Z.heap "java/lang/StringUTF16" "$assertionsDisabled" "Z" (.int (1 : Int32))) (SHI : Sta Z Z.heap "java/lang/StringUTF16" "HI_BYTE_SHIFT" "I" (.int (0 : Int32))) (SLO : Sta Z Z.heap "java/lang/StringUTF16" "LO_BYTE_SHIFT" "I" (.int (8 : Int32))) (O_ : Old Z n0 h0) :
    MetFree l (⟨"java/lang/String", "<init>", "([C)V"⟩ : MethodName) (head1 (Jvm.Cond.code (⟨"java/lang/String", "<init>", "([C)V"⟩ : MethodName) jdk_42_method_3_code 2 none :: ws) ({ frames := 5, cells := 2, slots := 9, locals := 74 } : Room)) (fun a U => a = #[(.ref a1), (.ref a2)] ∧ Z.Warmed39 U.vm ∧ U.heap = h0) (fun _ _ _ _ _ => True) (fun _ U o U' => ∃ v L, o = .returned v ∧ Qs3 Z a1 a2 cs c0 c1 c2 h0 n0 v U'.heap L ∧ FrameEnd U o U' L ({ frames := 5, cells := 2, slots := 9, locals := 74 } : Room).cells ({ frames := 5, cells := 2, slots := 9, locals := 74 } : Room).slots) := by
  refine MetFree.of_bodySF (plainFor_of_name pn_2) hisR ?_
  intro p e s m args below meth c s₁ Bd hml0 hP hK
  obtain ⟨rfl, hZ, hh⟩ := hP
  have hx := Bd.exec
  have hby := Bd.bytes
  have hlk : meth.locks = false := BodyLoose.notSynchronized Bd
  have hml : c.maxLocals = 2 := hml0
  have hown : s.vm.findClass "java/lang/String" = some m.cls := findClass_of_methodNamed Bd.named
  have hnm := (name_of_methodNamed Bd.named Bd.method).1
  have X0 : Stand p l e ({ frames := 5, cells := 2, slots := 9, locals := 74 } : Room) s m #[(.ref a1), (.ref a2)] below meth c s₁ [] 0 0 := Stand.of_body Bd
  have e0 : s₁.heap = h0 := by rw [← hh, Bd.state]; rfl
  have N0 := Fr.nil n0
  show Gl p.tables e below (fun (o : Outcome) (U' : State) => ∃ v L, o = .returned v ∧ Qs3 Z a1 a2 cs c0 c1 c2 h0 n0 v U'.heap L ∧ FrameEnd s o U' L ({ frames := 5, cells := 2, slots := 9, locals := 74 } : Room).cells ({ frames := 5, cells := 2, slots := 9, locals := 74 } : Room).slots) _
  refine Gl.pre (fun t k => castTop (ef_s3 m a1 a2 cs c0 c1 c2) k) ?_
  obtain ⟨PP, hPP⟩ : ∃ P : Outcome → State → Prop, P = (fun (o : Outcome) (U' : State) => ∃ v L, o = .returned v ∧ Qs3 Z a1 a2 cs c0 c1 c2 h0 n0 v U'.heap L ∧ FrameEnd s o U' L ({ frames := 5, cells := 2, slots := 9, locals := 74 } : Room).cells ({ frames := 5, cells := 2, slots := 9, locals := 74 } : Room).slots) := ⟨_, rfl⟩
  rw [← hPP]
  have K0 : Keep h0 h0 [a1] := Keep.refl h0 _
  show Gl p.tables e below PP (s₁.setTop (mkF m 0 #[.val (.ref a1), .val (.ref a2)] []))
  refine Gl.pre (fun _ k => XS.aloadN X0.here hx rfl (hb hby d2_0) rfl rfl k) ?_
  show Gl p.tables e below PP (s₁.setTop (mkF m 1 #[.val (.ref a1), .val (.ref a2)] [(.ref a1)]))
  refine Gl.pre (fun _ k => XS.aloadN X0.here hx rfl (hb hby d2_1) rfl rfl k) ?_
  show Gl p.tables e below PP (s₁.setTop (mkF m 2 #[.val (.ref a1), .val (.ref a2)] [(.ref a2), (.ref a1)]))
  refine Gl.pre (fun _ k => XS.iconst X0.here hx rfl (hb hby d2_2) k) ?_
  show Gl p.tables e below PP (s₁.setTop (mkF m 3 #[.val (.ref a1), .val (.ref a2)] [(.int (0 : Int32)), (.ref a2), (.ref a1)]))
  refine Gl.pre (fun _ k => XS.aloadN X0.here hx rfl (hb hby d2_3) rfl rfl k) ?_
  show Gl p.tables e below PP (s₁.setTop (mkF m 4 #[.val (.ref a1), .val (.ref a2)] [(.ref a2), (.int (0 : Int32)), (.ref a2), (.ref a1)]))
  refine Gl.pre (fun _ k => own_len X0 hx hZ e0 V_a2 (v := (3 : Int32)) rfl (g := (mkF m 4 #[.val (.ref a1), .val (.ref a2)] [(.ref a2), (.int (0 : Int32)), (.ref a2), (.ref a1)])) rfl rfl (hb hby d2_4) _ k) ?_
  show Gl p.tables e below PP (s₁.setTop (mkF m 5 #[.val (.ref a1), .val (.ref a2)] [(.int (3 : Int32)), (.int (0 : Int32)), (.ref a2), (.ref a1)]))
  refine Gl.pre (fun _ k => XS.aconstNull X0.here hx rfl (hb hby d2_5) k) ?_
  show Gl p.tables e below PP (s₁.setTop (mkF m 6 #[.val (.ref a1), .val (.ref a2)] [.null, (.int (3 : Int32)), (.int (0 : Int32)), (.ref a2), (.ref a1)]))
  obtain ⟨_, _, ⟨T1, L1, k1, n1⟩, -, X1, ⟨Lc1, hQ1, l1, y1, z1⟩, st1⟩ := X0.specialBack hx (y := (⟨"java/lang/String", "<init>", "([CIILjava/lang/Void;)V"⟩ : MethodName)) rfl hown (mvT hZ (hw _ (List.mem_of_getElem? (i := 11) rfl))) (mvT hZ (hw _ (List.mem_of_getElem? (i := 12) rfl))) (mvT hZ (hw _ (List.mem_of_getElem? (i := 14) rfl))) (by decide) (backOf (W := 0) (rmsi3 l Z a0 hw [] a1 a2 cs c0 c1 c2 h0 n0 Z0 E_a1 F_value_a1 F_coder_a1 g_a1 V_a2 own_ne_a1_a2 own_ne_a2_a1 hr0 hr1 hr2 SBC hcs SAD SHI SLO O_) hZ (hw _ (List.mem_of_getElem? (i := 14) rfl)) (hw _ (List.mem_of_getElem? (i := 6) rfl)) (by decide) (by decide)) (g := (mkF m 6 #[.val (.ref a1), .val (.ref a2)] [.null, (.int (3 : Int32)), (.int (0 : Int32)), (.ref a2), (.ref a1)])) rfl (by rw [hml]; rfl) (Steps.refl _) (a := a1) (argsL := [(.ref a2), (.int (0 : Int32)), (.int (3 : Int32)), .null]) (rest := []) (lenOf pd_7 rfl) rfl (by show 2 * 0 + _ ≤ _; exact Nat.le_of_eq rfl) (hb hby d2_6) (fun _ _ => ⟨rfl, e0, (by decide : 0 + 2 ≤ _), (by decide : 0 + 9 ≤ _)⟩)
  dsimp only [Pt.U, Pt.locs, Pt.cells, Pt.slots] at X1 l1 y1 z1 st1 hQ1
  subst l1 y1 z1
  obtain ⟨rfl, N1q, K1, vb1, ys1, co1, hco1, hln1, hne1, Fv1, Fc1, Vs1⟩ := hQ1
  have N1 := Fr.app N0 N1q
  refine Gl.pre (fun _ k => st1.trans k) ?_
  have E_a1 := E_a1.keep K1
  have V_a2 := V_a2.keep K1 (ninS (own_ne_a2_a1) nin0)
  have O_ := O_.keep K1 (allS g_a1 all0)
  have Z1 : n0 ≤ T1.heap.size := Nat.le_trans Z0 K1.1
  have K1k := K0.trans K1 (allS (Or.inl (List.mem_of_getElem? (i := 0) rfl)) all0)
  have F_value_a1 := Fv1
  have F_coder_a1 := Fc1
  have V_vb1 := Vs1
  have own_ne_vb1_a1 := hne1
  have own_ne_a1_vb1 := hne1.symm
  show Gl p.tables e below PP (T1.setTop (mkF m 9 #[.val (.ref a1), .val (.ref a2)] []))
  rw [hPP]
  refine own_finV (Q := (Qs3 Z a1 a2 cs c0 c1 c2 h0 n0)) X1 hx hlk Bd.returns (hb hby d2_9) ?_ (by decide) (by decide)
  show Qs3 Z a1 a2 cs c0 c1 c2 h0 n0 _ T1.heap _
  exact ⟨rfl, N1, K1k, vb1, ys1, co1, hco1, hln1, hne1, F_value_a1, F_coder_a1, V_vb1⟩
theorem ef_si0 (m : MethodId) (a1 : Addr) (a2 : Addr) : entryFrame m #[(.ref a1), (.ref a2), (.int (0 : Int32)), (.int (0 : Int32)), .null] 6 = mkF m 0 #[.val (.ref a1), .val (.ref a2), .val (.int (0 : Int32)), .val (.int (0 : Int32)), .val .null, .unset] [] := by first | (simp [entryFrame, mkF, argsToLocals, Value.category]; done) | rfl
def Qsi0 (Z : State) (a1 : Addr) (a2 : Addr) (h0 : Heap) (n0 : Nat) (v : Option Value) (h : Heap) (L : List Loc) : Prop := v = none ∧ Fr n0 L ∧ Keep h0 h [a1] ∧ ∃ (vb : Addr) (ys : List Int32) (co : Int32), (co = 0 ∨ co = 1) ∧ (ys.length.toInt32 >>> (co &&& 31)) = (0 : Int32) ∧ vb ≠ a1 ∧ Fld Z h a1 "java/lang/String" "value" "[B" (.ref vb) ∧ Fld Z h a1 "java/lang/String" "coder" "B" (.int co) ∧ Bal Z h vb .byte ys
set_option maxRecDepth 65536 in
set_option maxHeartbeats 40000000 in
theorem rmsi0 (l : Launch) (Z : State) (a0 : Array Value) (hw : ∀ d ∈ tables_1, d.before a0 Z = true) (ws : List Jvm.Cond) (a1 : Addr) (a2 : Addr) (h0 : Heap) (n0 : Nat) (Z0 : n0 ≤ h0.size) (E_a1 : Exa Z h0 a1 "java/lang/String") (F_value_a1 : Fld Z h0 a1 "java/lang/String" "value" "[B" .null) (F_coder_a1 : Fld Z h0 a1 "java/lang/String" "coder" "B" (.int (0 : Int32))) (g_a1 : n0 ≤ a1) (hEL : EW Z a0 own_EL) :
    MetFree l (⟨"java/lang/String", "<init>", "([CIILjava/lang/Void;)V"⟩ : MethodName) (head1 (Jvm.Cond.code (⟨"java/lang/String", "<init>", "([CIILjava/lang/Void;)V"⟩ : MethodName) jdk_42_method_149_code 6 none :: ws) ({ frames := 1, cells := 4, slots := 8, locals := 12 } : Room)) (fun a U => a = #[(.ref a1), (.ref a2), (.int (0 : Int32)), (.int (0 : Int32)), .null] ∧ Z.Warmed39 U.vm ∧ U.heap = h0 ∧ CHv Z own_EL U.vm h0 ∧ ∀ x ∈ ([a1] : List Addr), Safe Z own_EL U.vm h0 x) (fun _ _ _ _ _ => True) (fun _ U o U' => ∃ v L, o = .returned v ∧ Qsi0 Z a1 a2 h0 n0 v U'.heap L ∧ CHr Z own_EL U.vm U.heap U'.vm U'.heap ∧ ReturnedEndW U o U' L ({ frames := 1, cells := 4, slots := 8, locals := 12 } : Room).cells ({ frames := 1, cells := 4, slots := 8, locals := 12 } : Room).slots) := by
  refine MetFree.of_bodySF (plainFor_of_name pn_3) hisR ?_
  intro p e s m args below meth c s₁ Bd hml0 hP hK
  obtain ⟨rfl, hZ, hh, hCH, hSL⟩ := hP
  have hx := Bd.exec
  have hby := Bd.bytes
  have hlk : meth.locks = false := BodyLoose.notSynchronized Bd
  have hml : c.maxLocals = 6 := hml0
  have hown : s.vm.findClass "java/lang/String" = some m.cls := findClass_of_methodNamed Bd.named
  have hnm := (name_of_methodNamed Bd.named Bd.method).1
  have X0 : Stand p l e ({ frames := 1, cells := 4, slots := 8, locals := 12 } : Room) (s.setVm s.vm) m #[(.ref a1), (.ref a2), (.int (0 : Int32)), (.int (0 : Int32)), .null] below meth c s₁ [] 0 0 := Stand.of_body Bd
  have hZ0 : Z.Warmed39 (s.setVm s.vm).vm := hZ
  have hown0 : (s.setVm s.vm).vm.findClass "java/lang/String" = some m.cls := hown
  have hS0 : s.Since s.vm h0.size := (State.WarmedH.refl s).since _
  have hk0 : h0.size ≤ h0.size := Nat.le_refl _
  have CR0 : CHr Z own_EL s.vm h0 s.vm h0 := CHr.refl hCH
  have Sf_a1 := hSL a1 (List.mem_of_getElem? (i := 0) rfl)
  have e0 : s₁.heap = h0 := by rw [← hh, Bd.state]; rfl
  have N0 := Fr.nil n0
  show Gl p.tables e below (fun (o : Outcome) (U' : State) => ∃ v L, o = .returned v ∧ Qsi0 Z a1 a2 h0 n0 v U'.heap L ∧ CHr Z own_EL s.vm s.heap U'.vm U'.heap ∧ ReturnedEndW s o U' L ({ frames := 1, cells := 4, slots := 8, locals := 12 } : Room).cells ({ frames := 1, cells := 4, slots := 8, locals := 12 } : Room).slots) _
  refine Gl.pre (fun t k => castTop (ef_si0 m a1 a2) k) ?_
  obtain ⟨PP, hPP⟩ : ∃ P : Outcome → State → Prop, P = (fun (o : Outcome) (U' : State) => ∃ v L, o = .returned v ∧ Qsi0 Z a1 a2 h0 n0 v U'.heap L ∧ CHr Z own_EL s.vm s.heap U'.vm U'.heap ∧ ReturnedEndW s o U' L ({ frames := 1, cells := 4, slots := 8, locals := 12 } : Room).cells ({ frames := 1, cells := 4, slots := 8, locals := 12 } : Room).slots) := ⟨_, rfl⟩
  rw [← hPP]
  have K0 : Keep h0 h0 [a1] := Keep.refl h0 _
  show Gl p.tables e below PP (s₁.setTop (mkF m 0 #[.val (.ref a1), .val (.ref a2), .val (.int (0 : Int32)), .val (.int (0 : Int32)), .val .null, .unset] []))
  refine Gl.pre (fun _ k => XS.aloadN X0.here hx rfl (hb hby d3_0) rfl rfl k) ?_
  show Gl p.tables e below PP (s₁.setTop (mkF m 1 #[.val (.ref a1), .val (.ref a2), .val (.int (0 : Int32)), .val (.int (0 : Int32)), .val .null, .unset] [(.ref a1)]))
  obtain ⟨T1, X1, e1, st1⟩ := initO X0 hx hZ0 hown0 (hw _ (List.mem_of_getElem? (i := 15) rfl)) (hw _ (List.mem_of_getElem? (i := 16) rfl)) (hw _ (List.mem_of_getElem? (i := 17) rfl)) e0 (g := (mkF m 1 #[.val (.ref a1), .val (.ref a2), .val (.int (0 : Int32)), .val (.int (0 : Int32)), .val .null, .unset] [(.ref a1)])) rfl (by rw [hml]; rfl) rfl (hb hby d3_1) (by decide) (W := 0) (by show 2 * 0 + _ ≤ _; exact Nat.le_of_eq rfl) (by decide)
  refine Gl.pre (fun _ k => st1 _ k) ?_
  show Gl p.tables e below PP (T1.setTop (mkF m 4 #[.val (.ref a1), .val (.ref a2), .val (.int (0 : Int32)), .val (.int (0 : Int32)), .val .null, .unset] []))
  refine Gl.pre (fun _ k => XS.iloadN X1.here hx rfl (hb hby d3_4) rfl k) ?_
  show Gl p.tables e below PP (T1.setTop (mkF m 5 #[.val (.ref a1), .val (.ref a2), .val (.int (0 : Int32)), .val (.int (0 : Int32)), .val .null, .unset] [(.int (0 : Int32))]))
  refine Gl.pre (fun _ k => XS.ifNo X1.here hx rfl (hb hby d3_5) rfl ((if0 _ _).trans (teq (show (0 : Int32) = (0 : Int32) from (by decide))).2) k) ?_
  show Gl p.tables e below PP (T1.setTop (mkF m 8 #[.val (.ref a1), .val (.ref a2), .val (.int (0 : Int32)), .val (.int (0 : Int32)), .val .null, .unset] []))
  refine Gl.pre (fun _ k => XS.aloadN X1.here hx rfl (hb hby d3_8) rfl rfl k) ?_
  show Gl p.tables e below PP (T1.setTop (mkF m 9 #[.val (.ref a1), .val (.ref a2), .val (.int (0 : Int32)), .val (.int (0 : Int32)), .val .null, .unset] [(.ref a1)]))
  obtain ⟨la2, T2, h2, q2, lb2, kb2, X2, e2, E2, hS2, hk2, hZ2, hown2, Es2, Fc2, Fv2, Va2, -, -, CR2c, -, hne2, st2⟩ := ldcCH X1 hx hZ0 hown0 (hw _ (List.mem_of_getElem? (i := 18) rfl)) (own_wS hw) e1 hS0 hk0 hEL (by simp [own_EL, consts_1]) CR0.1 (vs := [].map Value.int) (z := (0 : Int32)) ⟨by decide, by decide⟩ (by decide) (by decide) (g := (mkF m 9 #[.val (.ref a1), .val (.ref a2), .val (.int (0 : Int32)), .val (.int (0 : Int32)), .val .null, .unset] [(.ref a1)])) rfl (hb hby d3_9) (n := 0) (by decide) (by decide) (by decide) (by decide)
  refine Gl.pre (fun _ k => st2 _ k) ?_
  have Sf_a1 := CR2c.safe E_a1.lt Sf_a1
  have own_ne_a1_la2 := (hne2 _ Sf_a1).1
  have own_ne_a1_lb2 := (hne2 _ Sf_a1).2
  have own_ne_la2_a1 := own_ne_a1_la2.symm
  have own_ne_lb2_a1 := own_ne_a1_lb2.symm
  have E_a1 := E_a1.ext E2
  have F_value_a1 := F_value_a1.ext E2
  have F_coder_a1 := F_coder_a1.ext E2
  have CR2 := CR0.trans CR2c
  have Z2 : n0 ≤ h2.size := Nat.le_trans Z0 E2.1
  have K2 := K0.ext E2
  have V_lb2 : Bal Z h2 lb2 .byte [] := own_balOf Va2 (by decide)
  show Gl p.tables e below PP (T2.setTop (mkF m 11 #[.val (.ref a1), .val (.ref a2), .val (.int (0 : Int32)), .val (.int (0 : Int32)), .val .null, .unset] [(.ref la2), (.ref a1)]))
  obtain ⟨T3, X3, e3, st3⟩ := getF X2 hx hZ2 hown2 (host := "") (Or.inl (hw _ (List.mem_of_getElem? (i := 24) rfl))) Via.refl e2 Fv2 (g := (mkF m 11 #[.val (.ref a1), .val (.ref a2), .val (.int (0 : Int32)), .val (.int (0 : Int32)), .val .null, .unset] [(.ref la2), (.ref a1)])) rfl rfl (hb hby d3_11)
  refine Gl.pre (fun _ k => st3 _ k) ?_
  show Gl p.tables e below PP (T3.setTop (mkF m 14 #[.val (.ref a1), .val (.ref a2), .val (.int (0 : Int32)), .val (.int (0 : Int32)), .val .null, .unset] [(.ref lb2), (.ref a1)]))
  obtain ⟨T4, h4, X4, e4, W4, st4⟩ := putF X3 hx hZ2 hown2 (host := "") (Or.inl (hw _ (List.mem_of_getElem? (i := 24) rfl))) Via.refl e3 F_value_a1 E_a1 (Or.inr ⟨(hw _ (List.mem_of_getElem? (i := 20) rfl)), rfl, hnm⟩) (hw _ (List.mem_of_getElem? (i := 5) rfl)) (ty := (.array .byte)) (by decide) rfl rfl (g := (mkF m 14 #[.val (.ref a1), .val (.ref a2), .val (.int (0 : Int32)), .val (.int (0 : Int32)), .val .null, .unset] [(.ref lb2), (.ref a1)])) rfl rfl (hb hby d3_14)
  refine Gl.pre (fun _ k => st4 _ k) ?_
  have CR4 := CR2.trans (CHr.wr W4 Sf_a1 CR2.1)
  have Sf_a1 := Safe.wr W4 Sf_a1 CR2.1 Sf_a1
  have E_a1 := E_a1.wr W4
  have F_value_a1 := F_value_a1.same W4
  have F_coder_a1 := F_coder_a1.other W4 (Or.inr (slot_ne (Or.inr (hw _ (List.mem_of_getElem? (i := 21) rfl))) (Or.inr (hw _ (List.mem_of_getElem? (i := 20) rfl))) (by decide) (t := .byte) (t' := (.array .byte)) (by decide) (by decide)))
  have Es2 := Es2.wr W4
  have Fc2 := Fc2.other W4 (Or.inl (own_ne_la2_a1))
  have Fv2 := Fv2.other W4 (Or.inl (own_ne_la2_a1))
  have V_lb2 := V_lb2.other W4 (own_ne_lb2_a1)
  have Z4 : n0 ≤ h4.size := by rw [W4.size]; exact Z2
  have hk4 := Nat.le_trans hk2 (Nat.le_of_eq W4.size.symm)
  have N4 := Fr.snoc X4 N0 g_a1
  have K4 := K2.wr W4 (Or.inl (List.mem_of_getElem? (i := 0) rfl))
  show Gl p.tables e below PP (T4.setTop (mkF m 17 #[.val (.ref a1), .val (.ref a2), .val (.int (0 : Int32)), .val (.int (0 : Int32)), .val .null, .unset] []))
  refine Gl.pre (fun _ k => XS.aloadN X4.here hx rfl (hb hby d3_17) rfl rfl k) ?_
  show Gl p.tables e below PP (T4.setTop (mkF m 18 #[.val (.ref a1), .val (.ref a2), .val (.int (0 : Int32)), .val (.int (0 : Int32)), .val .null, .unset] [(.ref a1)]))
  obtain ⟨la5, T5, h5, q5, lb5, kb5, X5, e5, E5, hS5, hk5, hZ5, hown5, Es5, Fc5, Fv5, Va5, -, -, CR5c, -, hne5, st5⟩ := ldcCH X4 hx hZ2 hown2 (hw _ (List.mem_of_getElem? (i := 18) rfl)) (own_wS hw) e4 hS2 hk4 hEL (by simp [own_EL, consts_1]) CR4.1 (vs := [].map Value.int) (z := (0 : Int32)) ⟨by decide, by decide⟩ (by decide) (by decide) (g := (mkF m 18 #[.val (.ref a1), .val (.ref a2), .val (.int (0 : Int32)), .val (.int (0 : Int32)), .val .null, .unset] [(.ref a1)])) rfl (hb hby d3_18) (n := 0) (by decide) (by decide) (by decide) (by decide)
  refine Gl.pre (fun _ k => st5 _ k) ?_
  have Sf_a1 := CR5c.safe E_a1.lt Sf_a1
  have own_ne_a1_la5 := (hne5 _ Sf_a1).1
  have own_ne_a1_lb5 := (hne5 _ Sf_a1).2
  have own_ne_la5_a1 := own_ne_a1_la5.symm
  have own_ne_lb5_a1 := own_ne_a1_lb5.symm
  have E_a1 := E_a1.ext E5
  have F_value_a1 := F_value_a1.ext E5
  have F_coder_a1 := F_coder_a1.ext E5
  have Es2 := Es2.ext E5
  have Fc2 := Fc2.ext E5
  have Fv2 := Fv2.ext E5
  have V_lb2 := V_lb2.ext E5
  have CR5 := CR4.trans CR5c
  have Z5 : n0 ≤ h5.size := Nat.le_trans Z4 E5.1
  have K5 := K4.ext E5
  have V_lb5 : Bal Z h5 lb5 .byte [] := own_balOf Va5 (by decide)
  show Gl p.tables e below PP (T5.setTop (mkF m 20 #[.val (.ref a1), .val (.ref a2), .val (.int (0 : Int32)), .val (.int (0 : Int32)), .val .null, .unset] [(.ref la5), (.ref a1)]))
  obtain ⟨T6, X6, e6, st6⟩ := getF X5 hx hZ5 hown5 (host := "") (Or.inl (hw _ (List.mem_of_getElem? (i := 25) rfl))) Via.refl e5 Fc5 (g := (mkF m 20 #[.val (.ref a1), .val (.ref a2), .val (.int (0 : Int32)), .val (.int (0 : Int32)), .val .null, .unset] [(.ref la5), (.ref a1)])) rfl rfl (hb hby d3_20)
  refine Gl.pre (fun _ k => st6 _ k) ?_
  show Gl p.tables e below PP (T6.setTop (mkF m 23 #[.val (.ref a1), .val (.ref a2), .val (.int (0 : Int32)), .val (.int (0 : Int32)), .val .null, .unset] [(.int (0 : Int32)), (.ref a1)]))
  obtain ⟨T7, h7, X7, e7, W7, st7⟩ := putFN X6 hx hZ5 hown5 (hw _ (List.mem_of_getElem? (i := 25) rfl)) Via.refl e6 F_coder_a1 E_a1 (Or.inr ⟨(hw _ (List.mem_of_getElem? (i := 21) rfl)), rfl, hnm⟩) (hw _ (List.mem_of_getElem? (i := 5) rfl)) (ty := .byte) (v' := (.int (0 : Int32))) (by decide) rfl rfl (g := (mkF m 23 #[.val (.ref a1), .val (.ref a2), .val (.int (0 : Int32)), .val (.int (0 : Int32)), .val .null, .unset] [(.int (0 : Int32)), (.ref a1)])) rfl rfl (hb hby d3_23)
  refine Gl.pre (fun _ k => st7 _ k) ?_
  have CR7 := CR5.trans (CHr.wr W7 Sf_a1 CR5.1)
  have Sf_a1 := Safe.wr W7 Sf_a1 CR5.1 Sf_a1
  have E_a1 := E_a1.wr W7
  have F_value_a1 := F_value_a1.other W7 (Or.inr (slot_ne (Or.inr (hw _ (List.mem_of_getElem? (i := 20) rfl))) (Or.inr (hw _ (List.mem_of_getElem? (i := 21) rfl))) (by decide) (t := (.array .byte)) (t' := .byte) (by decide) (by decide)))
  have F_coder_a1 := F_coder_a1.same W7
  have Es2 := Es2.wr W7
  have Fc2 := Fc2.other W7 (Or.inl (own_ne_la2_a1))
  have Fv2 := Fv2.other W7 (Or.inl (own_ne_la2_a1))
  have V_lb2 := V_lb2.other W7 (own_ne_lb2_a1)
  have Es5 := Es5.wr W7
  have Fc5 := Fc5.other W7 (Or.inl (own_ne_la5_a1))
  have Fv5 := Fv5.other W7 (Or.inl (own_ne_la5_a1))
  have V_lb5 := V_lb5.other W7 (own_ne_lb5_a1)
  have Z7 : n0 ≤ h7.size := by rw [W7.size]; exact Z5
  have hk7 := Nat.le_trans hk5 (Nat.le_of_eq W7.size.symm)
  have N7 := Fr.snoc X7 N4 g_a1
  have K7 := K5.wr W7 (Or.inl (List.mem_of_getElem? (i := 0) rfl))
  show Gl p.tables e below PP (T7.setTop (mkF m 26 #[.val (.ref a1), .val (.ref a2), .val (.int (0 : Int32)), .val (.int (0 : Int32)), .val .null, .unset] []))
  rw [hPP]
  refine own_finVW (Q := (Qsi0 Z a1 a2 h0 n0)) (Z := Z) (EL := own_EL) X7 hx hlk hS5 (by rw [e7]; exact hk7) Bd.returns (hb hby d3_26) ?_ (by rw [hh, e7]; exact CR7.trans (CHv.at X7 hZ5 hEL CR7.1)) (by decide) (by decide)
  show Qsi0 Z a1 a2 h0 n0 _ T7.heap _
  rw [e7]
  exact ⟨rfl, N7, K7, lb2, [], (0 : Int32), Or.inl rfl, by decide, own_ne_lb2_a1, F_value_a1, F_coder_a1, V_lb2⟩
theorem ef_s0 (m : MethodId) (a1 : Addr) (a2 : Addr) : entryFrame m #[(.ref a1), (.ref a2)] 2 = mkF m 0 #[.val (.ref a1), .val (.ref a2)] [] := by first | (simp [entryFrame, mkF, argsToLocals, Value.category]; done) | rfl
def Qs0 (Z : State) (a1 : Addr) (a2 : Addr) (h0 : Heap) (n0 : Nat) (v : Option Value) (h : Heap) (L : List Loc) : Prop := v = none ∧ Fr n0 L ∧ Keep h0 h [a1] ∧ ∃ (vb : Addr) (ys : List Int32) (co : Int32), (co = 0 ∨ co = 1) ∧ (ys.length.toInt32 >>> (co &&& 31)) = (0 : Int32) ∧ vb ≠ a1 ∧ Fld Z h a1 "java/lang/String" "value" "[B" (.ref vb) ∧ Fld Z h a1 "java/lang/String" "coder" "B" (.int co) ∧ Bal Z h vb .byte ys
set_option maxRecDepth 65536 in
set_option maxHeartbeats 40000000 in
theorem rms0 (l : Launch) (Z : State) (a0 : Array Value) (hw : ∀ d ∈ tables_1, d.before a0 Z = true) (ws : List Jvm.Cond) (a1 : Addr) (a2 : Addr) (h0 : Heap) (n0 : Nat) (Z0 : n0 ≤ h0.size) (E_a1 : Exa Z h0 a1 "java/lang/String") (F_value_a1 : Fld Z h0 a1 "java/lang/String" "value" "[B" .null) (F_coder_a1 : Fld Z h0 a1 "java/lang/String" "coder" "B" (.int (0 : Int32))) (g_a1 : n0 ≤ a1) (V_a2 : Bal Z h0 a2 .char []) (own_ne_a1_a2 : a1 ≠ a2) (own_ne_a2_a1 : a2 ≠ a1) (hEL : EW Z a0 own_EL) :
    MetFree l (⟨"java/lang/String", "<init>", "([C)V"⟩ : MethodName) (head1 (Jvm.Cond.code (⟨"java/lang/String", "<init>", "([C)V"⟩ : MethodName) jdk_42_method_3_code 2 none :: ws) ({ frames := 2, cells := 4, slots := 8, locals := 29 } : Room)) (fun a U => a = #[(.ref a1), (.ref a2)] ∧ Z.Warmed39 U.vm ∧ U.heap = h0 ∧ CHv Z own_EL U.vm h0 ∧ ∀ x ∈ ([a1] : List Addr), Safe Z own_EL U.vm h0 x) (fun _ _ _ _ _ => True) (fun _ U o U' => ∃ v L, o = .returned v ∧ Qs0 Z a1 a2 h0 n0 v U'.heap L ∧ CHr Z own_EL U.vm U.heap U'.vm U'.heap ∧ ReturnedEndW U o U' L ({ frames := 2, cells := 4, slots := 8, locals := 29 } : Room).cells ({ frames := 2, cells := 4, slots := 8, locals := 29 } : Room).slots) := by
  refine MetFree.of_bodySF (plainFor_of_name pn_2) hisR ?_
  intro p e s m args below meth c s₁ Bd hml0 hP hK
  obtain ⟨rfl, hZ, hh, hCH, hSL⟩ := hP
  have hx := Bd.exec
  have hby := Bd.bytes
  have hlk : meth.locks = false := BodyLoose.notSynchronized Bd
  have hml : c.maxLocals = 2 := hml0
  have hown : s.vm.findClass "java/lang/String" = some m.cls := findClass_of_methodNamed Bd.named
  have hnm := (name_of_methodNamed Bd.named Bd.method).1
  have X0 : Stand p l e ({ frames := 2, cells := 4, slots := 8, locals := 29 } : Room) (s.setVm s.vm) m #[(.ref a1), (.ref a2)] below meth c s₁ [] 0 0 := Stand.of_body Bd
  have hZ0 : Z.Warmed39 (s.setVm s.vm).vm := hZ
  have hown0 : (s.setVm s.vm).vm.findClass "java/lang/String" = some m.cls := hown
  have hS0 : s.Since s.vm h0.size := (State.WarmedH.refl s).since _
  have hk0 : h0.size ≤ h0.size := Nat.le_refl _
  have CR0 : CHr Z own_EL s.vm h0 s.vm h0 := CHr.refl hCH
  have Sf_a1 := hSL a1 (List.mem_of_getElem? (i := 0) rfl)
  have e0 : s₁.heap = h0 := by rw [← hh, Bd.state]; rfl
  have N0 := Fr.nil n0
  show Gl p.tables e below (fun (o : Outcome) (U' : State) => ∃ v L, o = .returned v ∧ Qs0 Z a1 a2 h0 n0 v U'.heap L ∧ CHr Z own_EL s.vm s.heap U'.vm U'.heap ∧ ReturnedEndW s o U' L ({ frames := 2, cells := 4, slots := 8, locals := 29 } : Room).cells ({ frames := 2, cells := 4, slots := 8, locals := 29 } : Room).slots) _
  refine Gl.pre (fun t k => castTop (ef_s0 m a1 a2) k) ?_
  obtain ⟨PP, hPP⟩ : ∃ P : Outcome → State → Prop, P = (fun (o : Outcome) (U' : State) => ∃ v L, o = .returned v ∧ Qs0 Z a1 a2 h0 n0 v U'.heap L ∧ CHr Z own_EL s.vm s.heap U'.vm U'.heap ∧ ReturnedEndW s o U' L ({ frames := 2, cells := 4, slots := 8, locals := 29 } : Room).cells ({ frames := 2, cells := 4, slots := 8, locals := 29 } : Room).slots) := ⟨_, rfl⟩
  rw [← hPP]
  have K0 : Keep h0 h0 [a1] := Keep.refl h0 _
  show Gl p.tables e below PP (s₁.setTop (mkF m 0 #[.val (.ref a1), .val (.ref a2)] []))
  refine Gl.pre (fun _ k => XS.aloadN X0.here hx rfl (hb hby d2_0) rfl rfl k) ?_
  show Gl p.tables e below PP (s₁.setTop (mkF m 1 #[.val (.ref a1), .val (.ref a2)] [(.ref a1)]))
  refine Gl.pre (fun _ k => XS.aloadN X0.here hx rfl (hb hby d2_1) rfl rfl k) ?_
  show Gl p.tables e below PP (s₁.setTop (mkF m 2 #[.val (.ref a1), .val (.ref a2)] [(.ref a2), (.ref a1)]))
  refine Gl.pre (fun _ k => XS.iconst X0.here hx rfl (hb hby d2_2) k) ?_
  show Gl p.tables e below PP (s₁.setTop (mkF m 3 #[.val (.ref a1), .val (.ref a2)] [(.int (0 : Int32)), (.ref a2), (.ref a1)]))
  refine Gl.pre (fun _ k => XS.aloadN X0.here hx rfl (hb hby d2_3) rfl rfl k) ?_
  show Gl p.tables e below PP (s₁.setTop (mkF m 4 #[.val (.ref a1), .val (.ref a2)] [(.ref a2), (.int (0 : Int32)), (.ref a2), (.ref a1)]))
  refine Gl.pre (fun _ k => own_len X0 hx hZ0 e0 V_a2 (v := (0 : Int32)) rfl (g := (mkF m 4 #[.val (.ref a1), .val (.ref a2)] [(.ref a2), (.int (0 : Int32)), (.ref a2), (.ref a1)])) rfl rfl (hb hby d2_4) _ k) ?_
  show Gl p.tables e below PP (s₁.setTop (mkF m 5 #[.val (.ref a1), .val (.ref a2)] [(.int (0 : Int32)), (.int (0 : Int32)), (.ref a2), (.ref a1)]))
  refine Gl.pre (fun _ k => XS.aconstNull X0.here hx rfl (hb hby d2_5) k) ?_
  show Gl p.tables e below PP (s₁.setTop (mkF m 6 #[.val (.ref a1), .val (.ref a2)] [.null, (.int (0 : Int32)), (.int (0 : Int32)), (.ref a2), (.ref a1)]))
  obtain ⟨_, _, ⟨T1, L1, k1, n1⟩, -, X1, hS1c, hg1, ⟨Lc1, hQ1, l1, y1, z1, CR1c⟩, st1⟩ := X0.specialBackS hx (y := (⟨"java/lang/String", "<init>", "([CIILjava/lang/Void;)V"⟩ : MethodName)) rfl hown0 (mvT hZ0 (hw _ (List.mem_of_getElem? (i := 11) rfl))) (mvT hZ0 (hw _ (List.mem_of_getElem? (i := 12) rfl))) (mvT hZ0 (hw _ (List.mem_of_getElem? (i := 14) rfl))) (by decide) (own_backH (W := 0) (rmsi0 l Z a0 hw [] a1 a2 h0 n0 Z0 E_a1 F_value_a1 F_coder_a1 g_a1 hEL) hZ0 (hw _ (List.mem_of_getElem? (i := 14) rfl)) (hw _ (List.mem_of_getElem? (i := 6) rfl)) (by decide) (by decide) hEL CR0.1 (allS ⟨E_a1.lt, Sf_a1⟩ all0)) (g := (mkF m 6 #[.val (.ref a1), .val (.ref a2)] [.null, (.int (0 : Int32)), (.int (0 : Int32)), (.ref a2), (.ref a1)])) rfl (by rw [hml]; rfl) (Steps.refl _) (a := a1) (argsL := [(.ref a2), (.int (0 : Int32)), (.int (0 : Int32)), .null]) (rest := []) (lenOf pd_7 rfl) rfl (by show 2 * 0 + _ ≤ _; exact Nat.le_of_eq rfl) (hb hby d2_6) (fun _ _ => ⟨rfl, e0, (by decide : 0 + 4 ≤ _), (by decide : 0 + 8 ≤ _)⟩)
  dsimp only [Pt.U, Pt.locs, Pt.cells, Pt.slots] at X1 l1 y1 z1 st1 hQ1 hS1c hg1 CR1c
  subst l1 y1 z1
  have X1 : Stand p l e ({ frames := 2, cells := 4, slots := 8, locals := 29 } : Room) (s.setVm T1.vm) m #[(.ref a1), (.ref a2)] below meth c T1 _ _ _ := X1
  have hS1 := foldS hS0 (Nat.le_trans hk0 (Nat.le_of_eq (congrArg Array.size e0.symm))) hS1c hg1
  have hZ1 : Z.Warmed39 (s.setVm T1.vm).vm := State.Warmed39.trans (t := s.setVm s.vm) hZ0 hS1c.1
  have hown1 : (s.setVm T1.vm).vm.findClass "java/lang/String" = some m.cls := by rw [show (s.setVm T1.vm).vm = T1.vm from rfl, hS1c.1.alike.findClass]; exact hown0
  have Sf_a1 := CR1c.safe E_a1.lt Sf_a1
  have CR1 := CR0.trans CR1c
  obtain ⟨rfl, N1q, K1, vb1, ys1, co1, hco1, hln1, hne1, Fv1, Fc1, Vs1⟩ := hQ1
  have N1 := Fr.app N0 N1q
  refine Gl.pre (fun _ k => st1.trans k) ?_
  have E_a1 := E_a1.keep K1
  have V_a2 := V_a2.keep K1 (ninS (own_ne_a2_a1) nin0)
  have Z1 : n0 ≤ T1.heap.size := Nat.le_trans Z0 K1.1
  have K1k := K0.trans K1 (allS (Or.inl (List.mem_of_getElem? (i := 0) rfl)) all0)
  have F_value_a1 := Fv1
  have F_coder_a1 := Fc1
  have V_vb1 := Vs1
  have own_ne_vb1_a1 := hne1
  have own_ne_a1_vb1 := hne1.symm
  show Gl p.tables e below PP (T1.setTop (mkF m 9 #[.val (.ref a1), .val (.ref a2)] []))
  rw [hPP]
  refine own_finVW (Q := (Qs0 Z a1 a2 h0 n0)) (Z := Z) (EL := own_EL) X1 hx hlk hS1 (Nat.le_refl _) Bd.returns (hb hby d2_9) ?_ (by rw [hh]; exact CR1.trans (CHv.at X1 hZ1 hEL CR1.1)) (by decide) (by decide)
  show Qs0 Z a1 a2 h0 n0 _ T1.heap _
  exact ⟨rfl, N1, K1k, vb1, ys1, co1, hco1, hln1, hne1, F_value_a1, F_coder_a1, V_vb1⟩
theorem d7_0 : decode jdk_42_method_152_code 0 = .ok (.getstatic 38, 3) := by decide +kernel
theorem d7_3 : decode jdk_42_method_152_code 3 = .ok (.ifCond .eq 10, 3) := by decide +kernel
theorem d7_6 : decode jdk_42_method_152_code 6 = .ok (.aload_n 0, 1) := by decide +kernel
theorem d7_7 : decode jdk_42_method_152_code 7 = .ok (.getfield 15, 3) := by decide +kernel
theorem d7_10 : decode jdk_42_method_152_code 10 = .ok (.goto 4, 3) := by decide +kernel
theorem d7_13 : decode jdk_42_method_152_code 13 = .ok (.iconst 1, 1) := by decide +kernel
theorem d7_14 : decode jdk_42_method_152_code 14 = .ok (.ireturn, 1) := by decide +kernel
theorem pn_7 : plainName "java/lang/String" = true := by first | (simp [plainName, overriddenIn]; done) | decide +kernel
theorem ef_7 (m : MethodId) (a1 : Addr) (cs : Int32) (co : Int32) : entryFrame m #[(.ref a1)] 1 = mkF m 0 #[.val (.ref a1)] [] := by first | (simp [entryFrame, mkF, argsToLocals, Value.category]; done) | rfl
def Q7 (Z : State) (a1 : Addr) (cs : Int32) (co : Int32) (h0 : Heap) (n0 : Nat) (v : Option Value) (h : Heap) (L : List Loc) : Prop := v = some (.int co) ∧ Fr n0 L ∧ h = h0
set_option maxRecDepth 65536 in
set_option maxHeartbeats 40000000 in
theorem rm7 (l : Launch) (Z : State) (a0 : Array Value) (hw : ∀ d ∈ tables_1, d.before a0 Z = true) (ws : List Jvm.Cond) (a1 : Addr) (cs : Int32) (co : Int32) (h0 : Heap) (n0 : Nat) (Z0 : n0 ≤ h0.size) (F_coder_a1 : Fld Z h0 a1 "java/lang/String" "coder" "B" (.int co)) (hco : co = 0 ∨ co = 1) (SBC : Sta Z Z.heap "java/lang/String" "COMPACT_STRINGS" "Z" (.int cs)) (hcs : ¬ (cs = (0 : Int32))) (O_ : Old Z n0 h0) :
    MetFree l (⟨"java/lang/String", "coder", "()B"⟩ : MethodName) (head1 (Jvm.Cond.code (⟨"java/lang/String", "coder", "()B"⟩ : MethodName) jdk_42_method_152_code 1 (some .byte) :: ws) ({ frames := 0, cells := 0, slots := 0, locals := 0 } : Room)) (fun a U => a = #[(.ref a1)] ∧ Z.Warmed39 U.vm ∧ U.heap = h0) (fun _ _ _ _ _ => True) (fun _ U o U' => ∃ v L, o = .returned v ∧ Q7 Z a1 cs co h0 n0 v U'.heap L ∧ FrameEnd U o U' L ({ frames := 0, cells := 0, slots := 0, locals := 0 } : Room).cells ({ frames := 0, cells := 0, slots := 0, locals := 0 } : Room).slots) := by
  refine MetFree.of_bodySF (plainFor_of_name pn_7) hisR ?_
  intro p e s m args below meth c s₁ Bd hml0 hP hK
  obtain ⟨rfl, hZ, hh⟩ := hP
  have hx := Bd.exec
  have hby := Bd.bytes
  have hlk : meth.locks = false := BodyLoose.notSynchronized Bd
  have hml : c.maxLocals = 1 := hml0
  have hown : s.vm.findClass "java/lang/String" = some m.cls := findClass_of_methodNamed Bd.named
  have hnm := (name_of_methodNamed Bd.named Bd.method).1
  have X0 : Stand p l e ({ frames := 0, cells := 0, slots := 0, locals := 0 } : Room) s m #[(.ref a1)] below meth c s₁ [] 0 0 := Stand.of_body Bd
  have e0 : s₁.heap = h0 := by rw [← hh, Bd.state]; rfl
  have N0 := Fr.nil n0
  show Gl p.tables e below (fun (o : Outcome) (U' : State) => ∃ v L, o = .returned v ∧ Q7 Z a1 cs co h0 n0 v U'.heap L ∧ FrameEnd s o U' L ({ frames := 0, cells := 0, slots := 0, locals := 0 } : Room).cells ({ frames := 0, cells := 0, slots := 0, locals := 0 } : Room).slots) _
  refine Gl.pre (fun t k => castTop (ef_7 m a1 cs co) k) ?_
  obtain ⟨PP, hPP⟩ : ∃ P : Outcome → State → Prop, P = (fun (o : Outcome) (U' : State) => ∃ v L, o = .returned v ∧ Q7 Z a1 cs co h0 n0 v U'.heap L ∧ FrameEnd s o U' L ({ frames := 0, cells := 0, slots := 0, locals := 0 } : Room).cells ({ frames := 0, cells := 0, slots := 0, locals := 0 } : Room).slots) := ⟨_, rfl⟩
  rw [← hPP]
  show Gl p.tables e below PP (s₁.setTop (mkF m 0 #[.val (.ref a1)] []))
  obtain ⟨T1, X1, e1, st1⟩ := getS2 X0 hx hZ hown (host := "") (Or.inl (hw _ (List.mem_of_getElem? (i := 45) rfl))) Via.refl e0 (SBC.ext O_.2) (g := (mkF m 0 #[.val (.ref a1)] [])) rfl (hb hby d7_0)
  refine Gl.pre (fun _ k => st1 _ k) ?_
  show Gl p.tables e below PP (T1.setTop (mkF m 3 #[.val (.ref a1)] [(.int cs)]))
  refine Gl.pre (fun _ k => XS.ifNo X1.here hx rfl (hb hby d7_3) rfl ((if0 _ _).trans (feq (show ¬ (cs = (0 : Int32)) from hcs)).1) k) ?_
  show Gl p.tables e below PP (T1.setTop (mkF m 6 #[.val (.ref a1)] []))
  refine Gl.pre (fun _ k => XS.aloadN X1.here hx rfl (hb hby d7_6) rfl rfl k) ?_
  show Gl p.tables e below PP (T1.setTop (mkF m 7 #[.val (.ref a1)] [(.ref a1)]))
  obtain ⟨T2, X2, e2, st2⟩ := getF X1 hx hZ hown (host := "") (Or.inl (hw _ (List.mem_of_getElem? (i := 25) rfl))) Via.refl e1 F_coder_a1 (g := (mkF m 7 #[.val (.ref a1)] [(.ref a1)])) rfl rfl (hb hby d7_7)
  refine Gl.pre (fun _ k => st2 _ k) ?_
  show Gl p.tables e below PP (T2.setTop (mkF m 10 #[.val (.ref a1)] [(.int co)]))
  refine Gl.pre (fun _ k => XS.goto X2.here hx rfl (pc0 := 10) (pc' := 14) rfl (hb hby d7_10) (by decide) (by decide) k) ?_
  show Gl p.tables e below PP (T2.setTop (mkF m 14 #[.val (.ref a1)] [(.int co)]))
  rw [hPP]
  refine own_finN (Q := (Q7 Z a1 cs co h0 n0)) X2 hx hlk Bd.returns (t := .byte) (z' := co) (by simp) (by rcases hco with rfl | rfl <;> decide) (hb hby d7_14) ?_ (by decide) (by decide)
  show Q7 Z a1 cs co h0 n0 _ T2.heap _
  rw [e2]
  exact ⟨rfl, N0, rfl⟩
theorem d6_0 : decode jdk_42_method_54_code 0 = .ok (.aload_n 0, 1) := by decide +kernel
theorem d6_1 : decode jdk_42_method_54_code 1 = .ok (.getfield 9, 3) := by decide +kernel
theorem d6_4 : decode jdk_42_method_54_code 4 = .ok (.arraylength, 1) := by decide +kernel
theorem d6_5 : decode jdk_42_method_54_code 5 = .ok (.aload_n 0, 1) := by decide +kernel
theorem d6_6 : decode jdk_42_method_54_code 6 = .ok (.invokevirtual 335, 3) := by decide +kernel
theorem d6_9 : decode jdk_42_method_54_code 9 = .ok (.ishr, 1) := by decide +kernel
theorem d6_10 : decode jdk_42_method_54_code 10 = .ok (.ireturn, 1) := by decide +kernel
theorem pn_6 : plainName "java/lang/String" = true := by first | (simp [plainName, overriddenIn]; done) | decide +kernel
theorem ef_6 (m : MethodId) (a1 : Addr) (cs : Int32) (co : Int32) (vb : Addr) (ys : List Int32) : entryFrame m #[(.ref a1)] 1 = mkF m 0 #[.val (.ref a1)] [] := by first | (simp [entryFrame, mkF, argsToLocals, Value.category]; done) | rfl
def Q6 (Z : State) (a1 : Addr) (cs : Int32) (co : Int32) (vb : Addr) (ys : List Int32) (h0 : Heap) (n0 : Nat) (v : Option Value) (h : Heap) (L : List Loc) : Prop := v = some (.int (ys.length.toInt32 >>> (co &&& 31))) ∧ Fr n0 L ∧ h = h0
set_option maxRecDepth 65536 in
set_option maxHeartbeats 40000000 in
theorem rm6 (l : Launch) (Z : State) (a0 : Array Value) (hw : ∀ d ∈ tables_1, d.before a0 Z = true) (ws : List Jvm.Cond) (a1 : Addr) (cs : Int32) (co : Int32) (vb : Addr) (ys : List Int32) (h0 : Heap) (n0 : Nat) (Z0 : n0 ≤ h0.size) (E_a1 : Exa Z h0 a1 "java/lang/String") (F_value_a1 : Fld Z h0 a1 "java/lang/String" "value" "[B" (.ref vb)) (F_coder_a1 : Fld Z h0 a1 "java/lang/String" "coder" "B" (.int co)) (V_vb : Bal Z h0 vb .byte ys) (hco : co = 0 ∨ co = 1) (SBC : Sta Z Z.heap "java/lang/String" "COMPACT_STRINGS" "Z" (.int cs)) (hcs : ¬ (cs = (0 : Int32))) (O_ : Old Z n0 h0) :
    MetFree l (⟨"java/lang/String", "length", "()I"⟩ : MethodName) (head1 (Jvm.Cond.code (⟨"java/lang/String", "length", "()I"⟩ : MethodName) jdk_42_method_54_code 1 (some .int) :: ws) ({ frames := 1, cells := 0, slots := 0, locals := 13 } : Room)) (fun a U => a = #[(.ref a1)] ∧ Z.Warmed39 U.vm ∧ U.heap = h0) (fun _ _ _ _ _ => True) (fun _ U o U' => ∃ v L, o = .returned v ∧ Q6 Z a1 cs co vb ys h0 n0 v U'.heap L ∧ FrameEnd U o U' L ({ frames := 1, cells := 0, slots := 0, locals := 13 } : Room).cells ({ frames := 1, cells := 0, slots := 0, locals := 13 } : Room).slots) := by
  refine MetFree.of_bodySF (plainFor_of_name pn_6) hisR ?_
  intro p e s m args below meth c s₁ Bd hml0 hP hK
  obtain ⟨rfl, hZ, hh⟩ := hP
  have hx := Bd.exec
  have hby := Bd.bytes
  have hlk : meth.locks = false := BodyLoose.notSynchronized Bd
  have hml : c.maxLocals = 1 := hml0
  have hown : s.vm.findClass "java/lang/String" = some m.cls := findClass_of_methodNamed Bd.named
  have hnm := (name_of_methodNamed Bd.named Bd.method).1
  have X0 : Stand p l e ({ frames := 1, cells := 0, slots := 0, locals := 13 } : Room) s m #[(.ref a1)] below meth c s₁ [] 0 0 := Stand.of_body Bd
  have e0 : s₁.heap = h0 := by rw [← hh, Bd.state]; rfl
  have N0 := Fr.nil n0
  show Gl p.tables e below (fun (o : Outcome) (U' : State) => ∃ v L, o = .returned v ∧ Q6 Z a1 cs co vb ys h0 n0 v U'.heap L ∧ FrameEnd s o U' L ({ frames := 1, cells := 0, slots := 0, locals := 13 } : Room).cells ({ frames := 1, cells := 0, slots := 0, locals := 13 } : Room).slots) _
  refine Gl.pre (fun t k => castTop (ef_6 m a1 cs co vb ys) k) ?_
  obtain ⟨PP, hPP⟩ : ∃ P : Outcome → State → Prop, P = (fun (o : Outcome) (U' : State) => ∃ v L, o = .returned v ∧ Q6 Z a1 cs co vb ys h0 n0 v U'.heap L ∧ FrameEnd s o U' L ({ frames := 1, cells := 0, slots := 0, locals := 13 } : Room).cells ({ frames := 1, cells := 0, slots := 0, locals := 13 } : Room).slots) := ⟨_, rfl⟩
  rw [← hPP]
  show Gl p.tables e below PP (s₁.setTop (mkF m 0 #[.val (.ref a1)] []))
  refine Gl.pre (fun _ k => XS.aloadN X0.here hx rfl (hb hby d6_0) rfl rfl k) ?_
  show Gl p.tables e below PP (s₁.setTop (mkF m 1 #[.val (.ref a1)] [(.ref a1)]))
  obtain ⟨T1, X1, e1, st1⟩ := getF X0 hx hZ hown (host := "") (Or.inl (hw _ (List.mem_of_getElem? (i := 24) rfl))) Via.refl e0 F_value_a1 (g := (mkF m 1 #[.val (.ref a1)] [(.ref a1)])) rfl rfl (hb hby d6_1)
  refine Gl.pre (fun _ k => st1 _ k) ?_
  show Gl p.tables e below PP (T1.setTop (mkF m 4 #[.val (.ref a1)] [(.ref vb)]))
  refine Gl.pre (fun _ k => own_len X1 hx hZ e1 V_vb (v := (ys.length.toInt32)) rfl (g := (mkF m 4 #[.val (.ref a1)] [(.ref vb)])) rfl rfl (hb hby d6_4) _ k) ?_
  show Gl p.tables e below PP (T1.setTop (mkF m 5 #[.val (.ref a1)] [(.int (ys.length.toInt32))]))
  refine Gl.pre (fun _ k => XS.aloadN X1.here hx rfl (hb hby d6_5) rfl rfl k) ?_
  show Gl p.tables e below PP (T1.setTop (mkF m 6 #[.val (.ref a1)] [(.ref a1), (.int (ys.length.toInt32))]))
  obtain ⟨cq2, kq2, qa2, qb2, qc2⟩ := isOf hZ e1 E_a1
  obtain ⟨_, _, ⟨T2, L2, k2, n2⟩, -, X2, ⟨Lc2, hQ2, l2, y2, z2⟩, st2⟩ := X1.virtualBack hx (y := (⟨"java/lang/String", "coder", "()B"⟩ : MethodName)) (z := (⟨"java/lang/String", "coder", "()B"⟩ : MethodName)) hown (mvT hZ (hw _ (List.mem_of_getElem? (i := 40) rfl))) (mvT hZ (hw _ (List.mem_of_getElem? (i := 41) rfl))) (notFace_of_selects (args := #[]) (mvT hZ (hw _ (List.mem_of_getElem? (i := 43) rfl)))) (mvT hZ (hw _ (List.mem_of_getElem? (i := 43) rfl))) (mvT hZ (hw _ (List.mem_of_getElem? (i := 42) rfl))) (by decide) (backOf (W := 1) (rm7 l Z a0 hw [] a1 cs co h0 n0 Z0 F_coder_a1 hco SBC hcs O_) hZ (hw _ (List.mem_of_getElem? (i := 44) rfl)) (hw _ (List.mem_of_getElem? (i := 6) rfl)) (by decide) (by decide)) qa2 qc2 (g := (mkF m 6 #[.val (.ref a1)] [(.ref a1), (.int (ys.length.toInt32))])) rfl (by rw [hml]; rfl) (Steps.refl _) (argsL := []) (rest := [(.int (ys.length.toInt32))]) (lenOf pd_8 rfl) rfl (by show 2 * 0 + _ ≤ _; exact Nat.le_of_eq rfl) (hb hby d6_6) (fun _ _ => ⟨rfl, e1, (by decide : 0 + 0 ≤ _), (by decide : 0 + 0 ≤ _)⟩)
  dsimp only [Pt.U, Pt.locs, Pt.cells, Pt.slots] at X2 l2 y2 z2 st2 hQ2
  subst l2 y2 z2
  obtain ⟨rfl, N2q, e2⟩ := hQ2
  have N2 := Fr.app N0 N2q
  refine Gl.pre (fun _ k => st2.trans k) ?_
  show Gl p.tables e below PP (T2.setTop (mkF m 9 #[.val (.ref a1)] [(.int co), (.int (ys.length.toInt32))]))
  refine Gl.pre (fun _ k => XS.ishr X2.here hx rfl (hb hby d6_9) rfl k) ?_
  show Gl p.tables e below PP (T2.setTop (mkF m 10 #[.val (.ref a1)] [(.int ((ys.length.toInt32) >>> (co &&& 31)))]))
  rw [hPP]
  refine own_finI (Q := (Q6 Z a1 cs co vb ys h0 n0)) X2 hx hlk Bd.returns (hb hby d6_10) ?_ (by decide) (by decide)
  show Q6 Z a1 cs co vb ys h0 n0 _ T2.heap _
  rw [e2]
  exact ⟨rfl, N2, rfl⟩
theorem d1_0 : decode method_3_code 0 = .ok (.lload_n 1, 1) := by decide +kernel
theorem d1_1 : decode method_3_code 1 = .ok (.l2i, 1) := by decide +kernel
theorem d1_2 : decode method_3_code 2 = .ok (.i2c, 1) := by decide +kernel
theorem d1_3 : decode method_3_code 3 = .ok (.istore_n 3, 1) := by decide +kernel
theorem d1_4 : decode method_3_code 4 = .ok (.lload_n 1, 1) := by decide +kernel
theorem d1_5 : decode method_3_code 5 = .ok (.bipush 16, 2) := by decide +kernel
theorem d1_7 : decode method_3_code 7 = .ok (.lushr, 1) := by decide +kernel
theorem d1_8 : decode method_3_code 8 = .ok (.l2i, 1) := by decide +kernel
theorem d1_9 : decode method_3_code 9 = .ok (.i2c, 1) := by decide +kernel
theorem d1_10 : decode method_3_code 10 = .ok (.istore 4, 2) := by decide +kernel
theorem d1_12 : decode method_3_code 12 = .ok (.lload_n 1, 1) := by decide +kernel
theorem d1_13 : decode method_3_code 13 = .ok (.bipush 32, 2) := by decide +kernel
theorem d1_15 : decode method_3_code 15 = .ok (.lushr, 1) := by decide +kernel
theorem d1_16 : decode method_3_code 16 = .ok (.l2i, 1) := by decide +kernel
theorem d1_17 : decode method_3_code 17 = .ok (.i2c, 1) := by decide +kernel
theorem d1_18 : decode method_3_code 18 = .ok (.istore 5, 2) := by decide +kernel
theorem d1_20 : decode method_3_code 20 = .ok (.iload_n 0, 1) := by decide +kernel
theorem d1_21 : decode method_3_code 21 = .ok (.ifCond .ne 14, 3) := by decide +kernel
theorem d1_24 : decode method_3_code 24 = .ok (.new 22, 3) := by decide +kernel
theorem d1_27 : decode method_3_code 27 = .ok (.dup, 1) := by decide +kernel
theorem d1_28 : decode method_3_code 28 = .ok (.iconst 0, 1) := by decide +kernel
theorem d1_29 : decode method_3_code 29 = .ok (.newarray .char, 2) := by decide +kernel
theorem d1_31 : decode method_3_code 31 = .ok (.invokespecial 24, 3) := by decide +kernel
theorem d1_34 : decode method_3_code 34 = .ok (.areturn, 1) := by decide +kernel
theorem d1_35 : decode method_3_code 35 = .ok (.iload_n 0, 1) := by decide +kernel
theorem d1_36 : decode method_3_code 36 = .ok (.iconst 1, 1) := by decide +kernel
theorem d1_37 : decode method_3_code 37 = .ok (.if_icmp .ne 18, 3) := by decide +kernel
theorem d1_40 : decode method_3_code 40 = .ok (.new 22, 3) := by decide +kernel
theorem d1_43 : decode method_3_code 43 = .ok (.dup, 1) := by decide +kernel
theorem d1_44 : decode method_3_code 44 = .ok (.iconst 1, 1) := by decide +kernel
theorem d1_45 : decode method_3_code 45 = .ok (.newarray .char, 2) := by decide +kernel
theorem d1_47 : decode method_3_code 47 = .ok (.dup, 1) := by decide +kernel
theorem d1_48 : decode method_3_code 48 = .ok (.iconst 0, 1) := by decide +kernel
theorem d1_49 : decode method_3_code 49 = .ok (.iload_n 3, 1) := by decide +kernel
theorem d1_50 : decode method_3_code 50 = .ok (.castore, 1) := by decide +kernel
theorem d1_51 : decode method_3_code 51 = .ok (.invokespecial 24, 3) := by decide +kernel
theorem d1_54 : decode method_3_code 54 = .ok (.areturn, 1) := by decide +kernel
theorem d1_55 : decode method_3_code 55 = .ok (.iload_n 0, 1) := by decide +kernel
theorem d1_56 : decode method_3_code 56 = .ok (.iconst 2, 1) := by decide +kernel
theorem d1_57 : decode method_3_code 57 = .ok (.if_icmp .ne 23, 3) := by decide +kernel
theorem d1_60 : decode method_3_code 60 = .ok (.new 22, 3) := by decide +kernel
theorem d1_63 : decode method_3_code 63 = .ok (.dup, 1) := by decide +kernel
theorem d1_64 : decode method_3_code 64 = .ok (.iconst 2, 1) := by decide +kernel
theorem d1_65 : decode method_3_code 65 = .ok (.newarray .char, 2) := by decide +kernel
theorem d1_67 : decode method_3_code 67 = .ok (.dup, 1) := by decide +kernel
theorem d1_68 : decode method_3_code 68 = .ok (.iconst 0, 1) := by decide +kernel
theorem d1_69 : decode method_3_code 69 = .ok (.iload_n 3, 1) := by decide +kernel
theorem d1_70 : decode method_3_code 70 = .ok (.castore, 1) := by decide +kernel
theorem d1_71 : decode method_3_code 71 = .ok (.dup, 1) := by decide +kernel
theorem d1_72 : decode method_3_code 72 = .ok (.iconst 1, 1) := by decide +kernel
theorem d1_73 : decode method_3_code 73 = .ok (.iload 4, 2) := by decide +kernel
theorem d1_75 : decode method_3_code 75 = .ok (.castore, 1) := by decide +kernel
theorem d1_76 : decode method_3_code 76 = .ok (.invokespecial 24, 3) := by decide +kernel
theorem d1_79 : decode method_3_code 79 = .ok (.areturn, 1) := by decide +kernel
theorem d1_80 : decode method_3_code 80 = .ok (.new 22, 3) := by decide +kernel
theorem d1_83 : decode method_3_code 83 = .ok (.dup, 1) := by decide +kernel
theorem d1_84 : decode method_3_code 84 = .ok (.iconst 3, 1) := by decide +kernel
theorem d1_85 : decode method_3_code 85 = .ok (.newarray .char, 2) := by decide +kernel
theorem d1_87 : decode method_3_code 87 = .ok (.dup, 1) := by decide +kernel
theorem d1_88 : decode method_3_code 88 = .ok (.iconst 0, 1) := by decide +kernel
theorem d1_89 : decode method_3_code 89 = .ok (.iload_n 3, 1) := by decide +kernel
theorem d1_90 : decode method_3_code 90 = .ok (.castore, 1) := by decide +kernel
theorem d1_91 : decode method_3_code 91 = .ok (.dup, 1) := by decide +kernel
theorem d1_92 : decode method_3_code 92 = .ok (.iconst 1, 1) := by decide +kernel
theorem d1_93 : decode method_3_code 93 = .ok (.iload 4, 2) := by decide +kernel
theorem d1_95 : decode method_3_code 95 = .ok (.castore, 1) := by decide +kernel
theorem d1_96 : decode method_3_code 96 = .ok (.dup, 1) := by decide +kernel
theorem d1_97 : decode method_3_code 97 = .ok (.iconst 2, 1) := by decide +kernel
theorem d1_98 : decode method_3_code 98 = .ok (.iload 5, 2) := by decide +kernel
theorem d1_100 : decode method_3_code 100 = .ok (.castore, 1) := by decide +kernel
theorem d1_101 : decode method_3_code 101 = .ok (.invokespecial 24, 3) := by decide +kernel
theorem d1_104 : decode method_3_code 104 = .ok (.areturn, 1) := by decide +kernel
theorem pn_1 : plainName "com/example/rules_for_records/rulesforrecords/regex/InputAtEndPinLaw" = true := by first | (simp [plainName, overriddenIn]; done) | decide +kernel
theorem ef_1 (m : MethodId) (pn : Int32) (q : Int64) (cs : Int32) : entryFrame m #[(.int pn), (.long q)] 6 = mkF m 0 #[.val (.int pn), .val (.long q), .second, .unset, .unset, .unset] [] := by first | (simp [entryFrame, mkF, argsToLocals, Value.category]; done) | rfl
def Q1 (Z : State) (pn : Int32) (q : Int64) (cs : Int32) (h0 : Heap) (n0 : Nat) (v : Option Value) (h : Heap) (L : List Loc) : Prop := ∃ sa : Addr, v = some (.ref sa) ∧ Fr n0 L ∧ h0.size ≤ sa ∧ Keep h0 h [] ∧ Exa Z h sa "java/lang/String" ∧ ∃ (vb : Addr) (ys : List Int32) (co : Int32), (co = 0 ∨ co = 1) ∧ (ys.length.toInt32 >>> (co &&& 31)) = pn ∧ vb ≠ sa ∧ Fld Z h sa "java/lang/String" "value" "[B" (.ref vb) ∧ Fld Z h sa "java/lang/String" "coder" "B" (.int co) ∧ Bal Z h vb .byte ys
set_option maxRecDepth 65536 in
set_option maxHeartbeats 40000000 in
theorem rm1 (l : Launch) (Z : State) (a0 : Array Value) (hw : ∀ d ∈ tables_1, d.before a0 Z = true) (ws : List Jvm.Cond) (pn : Int32) (q : Int64) (cs : Int32) (h0 : Heap) (n0 : Nat) (Z0 : n0 ≤ h0.size) (hp : pn = 0 ∨ pn = 1 ∨ pn = 2 ∨ pn = 3) (SBC : Sta Z Z.heap "java/lang/String" "COMPACT_STRINGS" "Z" (.int cs)) (hcs : ¬ (cs = (0 : Int32))) (SAD : Sta Z Z.heap "java/lang/StringUTF16" "$assertionsDisabled" "Z" (.int (1 : Int32))) (SHI : Sta Z Z.heap "java/lang/StringUTF16" "HI_BYTE_SHIFT" "I" (.int (0 : Int32))) (SLO : Sta Z Z.heap "java/lang/StringUTF16" "LO_BYTE_SHIFT" "I" (.int (8 : Int32))) (O_ : Old Z n0 h0) (hEL : EW Z a0 own_EL) :
    MetFree l (⟨"com/example/rules_for_records/rulesforrecords/regex/InputAtEndPinLaw", "make", "(IJ)Ljava/lang/String;"⟩ : MethodName) (head1 (Jvm.Cond.code (⟨"com/example/rules_for_records/rulesforrecords/regex/InputAtEndPinLaw", "make", "(IJ)Ljava/lang/String;"⟩ : MethodName) method_3_code 6 (some (.object "java/lang/String")) :: ws) ({ frames := 6, cells := 6, slots := 16, locals := 88 } : Room)) (fun a U => a = #[(.int pn), (.long q)] ∧ Z.Warmed39 U.vm ∧ U.heap = h0 ∧ CHv Z own_EL U.vm h0 ∧ ∀ x ∈ ([] : List Addr), Safe Z own_EL U.vm h0 x) (fun _ _ _ _ _ => True) (fun _ U o U' => ∃ v L, o = .returned v ∧ Q1 Z pn q cs h0 n0 v U'.heap L ∧ CHr Z own_EL U.vm U.heap U'.vm U'.heap ∧ ReturnedEndW U o U' L ({ frames := 6, cells := 6, slots := 16, locals := 88 } : Room).cells ({ frames := 6, cells := 6, slots := 16, locals := 88 } : Room).slots) := by
  refine MetFree.of_bodySF (plainFor_of_name pn_1) hisR ?_
  intro p e s m args below meth c s₁ Bd hml0 hP hK
  obtain ⟨rfl, hZ, hh, hCH, hSL⟩ := hP
  have hx := Bd.exec
  have hby := Bd.bytes
  have hlk : meth.locks = false := BodyLoose.notSynchronized Bd
  have hml : c.maxLocals = 6 := hml0
  have hown : s.vm.findClass "com/example/rules_for_records/rulesforrecords/regex/InputAtEndPinLaw" = some m.cls := findClass_of_methodNamed Bd.named
  have hnm := (name_of_methodNamed Bd.named Bd.method).1
  have X0 : Stand p l e ({ frames := 6, cells := 6, slots := 16, locals := 88 } : Room) (s.setVm s.vm) m #[(.int pn), (.long q)] below meth c s₁ [] 0 0 := Stand.of_body Bd
  have hZ0 : Z.Warmed39 (s.setVm s.vm).vm := hZ
  have hown0 : (s.setVm s.vm).vm.findClass "com/example/rules_for_records/rulesforrecords/regex/InputAtEndPinLaw" = some m.cls := hown
  have hS0 : s.Since s.vm h0.size := (State.WarmedH.refl s).since _
  have hk0 : h0.size ≤ h0.size := Nat.le_refl _
  have CR0 : CHr Z own_EL s.vm h0 s.vm h0 := CHr.refl hCH
  have e0 : s₁.heap = h0 := by rw [← hh, Bd.state]; rfl
  have N0 := Fr.nil n0
  show Gl p.tables e below (fun (o : Outcome) (U' : State) => ∃ v L, o = .returned v ∧ Q1 Z pn q cs h0 n0 v U'.heap L ∧ CHr Z own_EL s.vm s.heap U'.vm U'.heap ∧ ReturnedEndW s o U' L ({ frames := 6, cells := 6, slots := 16, locals := 88 } : Room).cells ({ frames := 6, cells := 6, slots := 16, locals := 88 } : Room).slots) _
  refine Gl.pre (fun t k => castTop (ef_1 m pn q cs) k) ?_
  obtain ⟨PP, hPP⟩ : ∃ P : Outcome → State → Prop, P = (fun (o : Outcome) (U' : State) => ∃ v L, o = .returned v ∧ Q1 Z pn q cs h0 n0 v U'.heap L ∧ CHr Z own_EL s.vm s.heap U'.vm U'.heap ∧ ReturnedEndW s o U' L ({ frames := 6, cells := 6, slots := 16, locals := 88 } : Room).cells ({ frames := 6, cells := 6, slots := 16, locals := 88 } : Room).slots) := ⟨_, rfl⟩
  rw [← hPP]
  have K0 : Keep h0 h0 [] := Keep.refl h0 _
  show Gl p.tables e below PP (s₁.setTop (mkF m 0 #[.val (.int pn), .val (.long q), .second, .unset, .unset, .unset] []))
  refine Gl.pre (fun _ k => XS.lloadN X0.here hx rfl (hb hby d1_0) rfl k) ?_
  show Gl p.tables e below PP (s₁.setTop (mkF m 1 #[.val (.int pn), .val (.long q), .second, .unset, .unset, .unset] [(.long q)]))
  refine Gl.pre (fun _ k => XS.l2i X0.here hx rfl (hb hby d1_1) rfl k) ?_
  show Gl p.tables e below PP (s₁.setTop (mkF m 2 #[.val (.int pn), .val (.long q), .second, .unset, .unset, .unset] [(.int (q.toInt32))]))
  refine Gl.pre (fun _ k => XS.i2c X0.here hx rfl (hb hby d1_2) rfl k) ?_
  show Gl p.tables e below PP (s₁.setTop (mkF m 3 #[.val (.int pn), .val (.long q), .second, .unset, .unset, .unset] [(.int ((q.toInt32).toUInt32.toUInt16.toUInt32.toInt32))]))
  refine Gl.pre (fun _ k => XS.istoreN X0.here hx rfl (hb hby d1_3) rfl (l' := #[.val (.int pn), .val (.long q), .second, .val (.int ((q.toInt32).toUInt32.toUInt16.toUInt32.toInt32)), .unset, .unset]) rfl k) ?_
  show Gl p.tables e below PP (s₁.setTop (mkF m 4 #[.val (.int pn), .val (.long q), .second, .val (.int ((q.toInt32).toUInt32.toUInt16.toUInt32.toInt32)), .unset, .unset] []))
  refine Gl.pre (fun _ k => XS.lloadN X0.here hx rfl (hb hby d1_4) rfl k) ?_
  show Gl p.tables e below PP (s₁.setTop (mkF m 5 #[.val (.int pn), .val (.long q), .second, .val (.int ((q.toInt32).toUInt32.toUInt16.toUInt32.toInt32)), .unset, .unset] [(.long q)]))
  refine Gl.pre (fun _ k => XS.bipush X0.here hx rfl (hb hby d1_5) k) ?_
  show Gl p.tables e below PP (s₁.setTop (mkF m 7 #[.val (.int pn), .val (.long q), .second, .val (.int ((q.toInt32).toUInt32.toUInt16.toUInt32.toInt32)), .unset, .unset] [(.int (16 : Int32)), (.long q)]))
  refine Gl.pre (fun _ k => XS.lushr X0.here hx rfl (hb hby d1_7) rfl k) ?_
  show Gl p.tables e below PP (s₁.setTop (mkF m 8 #[.val (.int pn), .val (.long q), .second, .val (.int ((q.toInt32).toUInt32.toUInt16.toUInt32.toInt32)), .unset, .unset] [(.long (own_ushrL q (16 : Int32)))]))
  refine Gl.pre (fun _ k => XS.l2i X0.here hx rfl (hb hby d1_8) rfl k) ?_
  show Gl p.tables e below PP (s₁.setTop (mkF m 9 #[.val (.int pn), .val (.long q), .second, .val (.int ((q.toInt32).toUInt32.toUInt16.toUInt32.toInt32)), .unset, .unset] [(.int ((own_ushrL q (16 : Int32)).toInt32))]))
  refine Gl.pre (fun _ k => XS.i2c X0.here hx rfl (hb hby d1_9) rfl k) ?_
  show Gl p.tables e below PP (s₁.setTop (mkF m 10 #[.val (.int pn), .val (.long q), .second, .val (.int ((q.toInt32).toUInt32.toUInt16.toUInt32.toInt32)), .unset, .unset] [(.int (((own_ushrL q (16 : Int32)).toInt32).toUInt32.toUInt16.toUInt32.toInt32))]))
  refine Gl.pre (fun _ k => XS.istore X0.here hx rfl (hb hby d1_10) rfl (l' := #[.val (.int pn), .val (.long q), .second, .val (.int ((q.toInt32).toUInt32.toUInt16.toUInt32.toInt32)), .val (.int (((own_ushrL q (16 : Int32)).toInt32).toUInt32.toUInt16.toUInt32.toInt32)), .unset]) rfl k) ?_
  show Gl p.tables e below PP (s₁.setTop (mkF m 12 #[.val (.int pn), .val (.long q), .second, .val (.int ((q.toInt32).toUInt32.toUInt16.toUInt32.toInt32)), .val (.int (((own_ushrL q (16 : Int32)).toInt32).toUInt32.toUInt16.toUInt32.toInt32)), .unset] []))
  refine Gl.pre (fun _ k => XS.lloadN X0.here hx rfl (hb hby d1_12) rfl k) ?_
  show Gl p.tables e below PP (s₁.setTop (mkF m 13 #[.val (.int pn), .val (.long q), .second, .val (.int ((q.toInt32).toUInt32.toUInt16.toUInt32.toInt32)), .val (.int (((own_ushrL q (16 : Int32)).toInt32).toUInt32.toUInt16.toUInt32.toInt32)), .unset] [(.long q)]))
  refine Gl.pre (fun _ k => XS.bipush X0.here hx rfl (hb hby d1_13) k) ?_
  show Gl p.tables e below PP (s₁.setTop (mkF m 15 #[.val (.int pn), .val (.long q), .second, .val (.int ((q.toInt32).toUInt32.toUInt16.toUInt32.toInt32)), .val (.int (((own_ushrL q (16 : Int32)).toInt32).toUInt32.toUInt16.toUInt32.toInt32)), .unset] [(.int (32 : Int32)), (.long q)]))
  refine Gl.pre (fun _ k => XS.lushr X0.here hx rfl (hb hby d1_15) rfl k) ?_
  show Gl p.tables e below PP (s₁.setTop (mkF m 16 #[.val (.int pn), .val (.long q), .second, .val (.int ((q.toInt32).toUInt32.toUInt16.toUInt32.toInt32)), .val (.int (((own_ushrL q (16 : Int32)).toInt32).toUInt32.toUInt16.toUInt32.toInt32)), .unset] [(.long (own_ushrL q (32 : Int32)))]))
  refine Gl.pre (fun _ k => XS.l2i X0.here hx rfl (hb hby d1_16) rfl k) ?_
  show Gl p.tables e below PP (s₁.setTop (mkF m 17 #[.val (.int pn), .val (.long q), .second, .val (.int ((q.toInt32).toUInt32.toUInt16.toUInt32.toInt32)), .val (.int (((own_ushrL q (16 : Int32)).toInt32).toUInt32.toUInt16.toUInt32.toInt32)), .unset] [(.int ((own_ushrL q (32 : Int32)).toInt32))]))
  refine Gl.pre (fun _ k => XS.i2c X0.here hx rfl (hb hby d1_17) rfl k) ?_
  show Gl p.tables e below PP (s₁.setTop (mkF m 18 #[.val (.int pn), .val (.long q), .second, .val (.int ((q.toInt32).toUInt32.toUInt16.toUInt32.toInt32)), .val (.int (((own_ushrL q (16 : Int32)).toInt32).toUInt32.toUInt16.toUInt32.toInt32)), .unset] [(.int (((own_ushrL q (32 : Int32)).toInt32).toUInt32.toUInt16.toUInt32.toInt32))]))
  refine Gl.pre (fun _ k => XS.istore X0.here hx rfl (hb hby d1_18) rfl (l' := #[.val (.int pn), .val (.long q), .second, .val (.int ((q.toInt32).toUInt32.toUInt16.toUInt32.toInt32)), .val (.int (((own_ushrL q (16 : Int32)).toInt32).toUInt32.toUInt16.toUInt32.toInt32)), .val (.int (((own_ushrL q (32 : Int32)).toInt32).toUInt32.toUInt16.toUInt32.toInt32))]) rfl k) ?_
  show Gl p.tables e below PP (s₁.setTop (mkF m 20 #[.val (.int pn), .val (.long q), .second, .val (.int ((q.toInt32).toUInt32.toUInt16.toUInt32.toInt32)), .val (.int (((own_ushrL q (16 : Int32)).toInt32).toUInt32.toUInt16.toUInt32.toInt32)), .val (.int (((own_ushrL q (32 : Int32)).toInt32).toUInt32.toUInt16.toUInt32.toInt32))] []))
  refine Gl.pre (fun _ k => XS.iloadN X0.here hx rfl (hb hby d1_20) rfl k) ?_
  show Gl p.tables e below PP (s₁.setTop (mkF m 21 #[.val (.int pn), .val (.long q), .second, .val (.int ((q.toInt32).toUInt32.toUInt16.toUInt32.toInt32)), .val (.int (((own_ushrL q (16 : Int32)).toInt32).toUInt32.toUInt16.toUInt32.toInt32)), .val (.int (((own_ushrL q (32 : Int32)).toInt32).toUInt32.toUInt16.toUInt32.toInt32))] [(.int pn)]))
  by_cases hc1 : pn = (0 : Int32)
  · refine Gl.pre (fun _ k => XS.ifNo X0.here hx rfl (hb hby d1_21) rfl ((if0 _ _).trans (teq hc1).2) k) ?_
    show Gl p.tables e below PP (s₁.setTop (mkF m 24 #[.val (.int pn), .val (.long q), .second, .val (.int ((q.toInt32).toUInt32.toUInt16.toUInt32.toInt32)), .val (.int (((own_ushrL q (16 : Int32)).toInt32).toUInt32.toUInt16.toUInt32.toInt32)), .val (.int (((own_ushrL q (32 : Int32)).toInt32).toUInt32.toUInt16.toUInt32.toInt32))] []))
    obtain ⟨T2, h2, X2, e2, E2, A2, D2, -, st2⟩ := newO X0 hx hZ0 hown0 (hw _ (List.mem_of_getElem? (i := 4) rfl)) (hw _ (List.mem_of_getElem? (i := 5) rfl)) (hw _ (List.mem_of_getElem? (i := 6) rfl)) e0 (g := (mkF m 24 #[.val (.int pn), .val (.long q), .second, .val (.int ((q.toInt32).toUInt32.toUInt16.toUInt32.toInt32)), .val (.int (((own_ushrL q (16 : Int32)).toInt32).toUInt32.toUInt16.toUInt32.toInt32)), .val (.int (((own_ushrL q (32 : Int32)).toInt32).toUInt32.toUInt16.toUInt32.toInt32))] [])) rfl (hb hby d1_24) (by decide) (by decide)
    obtain ⟨b2, g2⟩ : ∃ z, z = h0.size := ⟨_, rfl⟩
    rw [← g2] at A2 D2 st2
    refine Gl.pre (fun _ k => st2 _ k) ?_
    have g_b2 : n0 ≤ b2 := Nat.le_trans Z0 (Nat.le_of_eq g2.symm)
    have sz_b2 : h0.size ≤ b2 := Nat.le_trans K0.1 (Nat.le_of_eq g2.symm)
    have Sf_b2 := Safe.ext E2 CR0.1 (Safe.new (Z := Z) (EL := own_EL) (vm := s.vm) (Nat.le_of_eq g2.symm))
    have CR2 := CR0.trans (CHr.ext E2 CR0.1)
    have O_ := O_.ext E2
    have Z2 : n0 ≤ h2.size := Nat.le_trans Z0 E2.1
    have hk2 := Nat.le_trans hk0 E2.1
    have K2 := K0.ext E2
    have E_b2 := A2
    have F_value_b2 : Fld Z h2 b2 "java/lang/String" "value" "[B" .null := D2 (Or.inr (hw _ (List.mem_of_getElem? (i := 20) rfl))) (ty := (.array .byte)) (by decide)
    have F_coder_b2 : Fld Z h2 b2 "java/lang/String" "coder" "B" (.int (0 : Int32)) := D2 (Or.inr (hw _ (List.mem_of_getElem? (i := 21) rfl))) (ty := .byte) (by decide)
    show Gl p.tables e below PP (T2.setTop (mkF m 27 #[.val (.int pn), .val (.long q), .second, .val (.int ((q.toInt32).toUInt32.toUInt16.toUInt32.toInt32)), .val (.int (((own_ushrL q (16 : Int32)).toInt32).toUInt32.toUInt16.toUInt32.toInt32)), .val (.int (((own_ushrL q (32 : Int32)).toInt32).toUInt32.toUInt16.toUInt32.toInt32))] [(.ref b2)]))
    refine Gl.pre (fun _ k => XS.dup X2.here hx rfl (hb hby d1_27) rfl rfl k) ?_
    show Gl p.tables e below PP (T2.setTop (mkF m 28 #[.val (.int pn), .val (.long q), .second, .val (.int ((q.toInt32).toUInt32.toUInt16.toUInt32.toInt32)), .val (.int (((own_ushrL q (16 : Int32)).toInt32).toUInt32.toUInt16.toUInt32.toInt32)), .val (.int (((own_ushrL q (32 : Int32)).toInt32).toUInt32.toUInt16.toUInt32.toInt32))] [(.ref b2), (.ref b2)]))
    refine Gl.pre (fun _ k => XS.iconst X2.here hx rfl (hb hby d1_28) k) ?_
    show Gl p.tables e below PP (T2.setTop (mkF m 29 #[.val (.int pn), .val (.long q), .second, .val (.int ((q.toInt32).toUInt32.toUInt16.toUInt32.toInt32)), .val (.int (((own_ushrL q (16 : Int32)).toInt32).toUInt32.toUInt16.toUInt32.toInt32)), .val (.int (((own_ushrL q (32 : Int32)).toInt32).toUInt32.toUInt16.toUInt32.toInt32))] [(.int (0 : Int32)), (.ref b2), (.ref b2)]))
    obtain ⟨T3, h3, k3, X3, e3, E3, A3, st3⟩ := newP X2 hx hZ0 (hw _ (List.mem_of_getElem? (i := 7) rfl)) e2 (g := (mkF m 29 #[.val (.int pn), .val (.long q), .second, .val (.int ((q.toInt32).toUInt32.toUInt16.toUInt32.toInt32)), .val (.int (((own_ushrL q (16 : Int32)).toInt32).toUInt32.toUInt16.toUInt32.toInt32)), .val (.int (((own_ushrL q (32 : Int32)).toInt32).toUInt32.toUInt16.toUInt32.toInt32))] [(.int (0 : Int32)), (.ref b2), (.ref b2)])) rfl (hb hby d1_29) rfl (by decide) (cap := 0) (by decide) (by decide) (by decide) (by decide)
    obtain ⟨b3, g3⟩ : ∃ z, z = h2.size := ⟨_, rfl⟩
    rw [← g3] at A3 st3
    refine Gl.pre (fun _ k => st3 _ k) ?_
    have own_ne_b2_b3 : b2 ≠ b3 := by have q := E_b2.lt; rw [g3]; exact Nat.ne_of_lt q
    have own_ne_b3_b2 : b3 ≠ b2 := own_ne_b2_b3.symm
    have g_b3 : n0 ≤ b3 := Nat.le_trans Z2 (Nat.le_of_eq g3.symm)
    have sz_b3 : h0.size ≤ b3 := Nat.le_trans K2.1 (Nat.le_of_eq g3.symm)
    have Sf_b3 := Safe.ext E3 CR2.1 (Safe.new (Z := Z) (EL := own_EL) (vm := s.vm) (Nat.le_of_eq g3.symm))
    have Sf_b2 := Safe.ext E3 CR2.1 Sf_b2
    have CR3 := CR2.trans (CHr.ext E3 CR2.1)
    have O_ := O_.ext E3
    have E_b2 := E_b2.ext E3
    have F_value_b2 := F_value_b2.ext E3
    have F_coder_b2 := F_coder_b2.ext E3
    have Z3 : n0 ≤ h3.size := Nat.le_trans Z2 E3.1
    have hk3 := Nat.le_trans hk2 E3.1
    have K3 := K2.ext E3
    have V_b3 : Bal Z h3 b3 .char [] := Bal.new (ty := .char) A3 (n := 0) (by decide) rfl
    show Gl p.tables e below PP (T3.setTop (mkF m 31 #[.val (.int pn), .val (.long q), .second, .val (.int ((q.toInt32).toUInt32.toUInt16.toUInt32.toInt32)), .val (.int (((own_ushrL q (16 : Int32)).toInt32).toUInt32.toUInt16.toUInt32.toInt32)), .val (.int (((own_ushrL q (32 : Int32)).toInt32).toUInt32.toUInt16.toUInt32.toInt32))] [(.ref b3), (.ref b2), (.ref b2)]))
    obtain ⟨_, _, ⟨T4, L4, k4, n4⟩, -, X4, hS4c, hg4, ⟨Lc4, hQ4, l4, y4, z4, CR4c⟩, st4⟩ := X3.specialBackS hx (y := (⟨"java/lang/String", "<init>", "([C)V"⟩ : MethodName)) rfl hown0 (mvT hZ0 (hw _ (List.mem_of_getElem? (i := 8) rfl))) (mvT hZ0 (hw _ (List.mem_of_getElem? (i := 9) rfl))) (mvT hZ0 (hw _ (List.mem_of_getElem? (i := 10) rfl))) (by decide) (own_backH (W := 1) (rms0 l Z a0 hw [] b2 b3 h3 n0 Z3 E_b2 F_value_b2 F_coder_b2 g_b2 V_b3 own_ne_b2_b3 own_ne_b3_b2 hEL) hZ0 (hw _ (List.mem_of_getElem? (i := 10) rfl)) (hw _ (List.mem_of_getElem? (i := 6) rfl)) (by decide) (by decide) hEL CR3.1 (allS ⟨E_b2.lt, Sf_b2⟩ all0)) (g := (mkF m 31 #[.val (.int pn), .val (.long q), .second, .val (.int ((q.toInt32).toUInt32.toUInt16.toUInt32.toInt32)), .val (.int (((own_ushrL q (16 : Int32)).toInt32).toUInt32.toUInt16.toUInt32.toInt32)), .val (.int (((own_ushrL q (32 : Int32)).toInt32).toUInt32.toUInt16.toUInt32.toInt32))] [(.ref b3), (.ref b2), (.ref b2)])) rfl (by rw [hml]; rfl) (Steps.refl _) (a := b2) (argsL := [(.ref b3)]) (rest := [(.ref b2)]) (lenOf pd_9 rfl) rfl (by show 2 * 0 + _ ≤ _; exact Nat.le_of_eq rfl) (hb hby d1_31) (fun _ _ => ⟨rfl, e3, (by decide : 2 + 4 ≤ _), (by decide : 4 + 8 ≤ _)⟩)
    dsimp only [Pt.U, Pt.locs, Pt.cells, Pt.slots] at X4 l4 y4 z4 st4 hQ4 hS4c hg4 CR4c
    subst l4 y4 z4
    have X4 : Stand p l e ({ frames := 6, cells := 6, slots := 16, locals := 88 } : Room) (s.setVm T4.vm) m #[(.int pn), (.long q)] below meth c T4 _ _ _ := X4
    have hS4 := foldS hS0 (Nat.le_trans hk3 (Nat.le_of_eq (congrArg Array.size e3.symm))) hS4c hg4
    have hZ4 : Z.Warmed39 (s.setVm T4.vm).vm := State.Warmed39.trans (t := s.setVm s.vm) hZ0 hS4c.1
    have hown4 : (s.setVm T4.vm).vm.findClass "com/example/rules_for_records/rulesforrecords/regex/InputAtEndPinLaw" = some m.cls := by rw [show (s.setVm T4.vm).vm = T4.vm from rfl, hS4c.1.alike.findClass]; exact hown0
    have Sf_b2 := CR4c.safe E_b2.lt Sf_b2
    have Sf_b3 := CR4c.safe V_b3.lt Sf_b3
    have CR4 := CR3.trans CR4c
    obtain ⟨rfl, N4q, K4, vb4, ys4, co4, hco4, hln4, hne4, Fv4, Fc4, Vs4⟩ := hQ4
    have N4 := Fr.app N0 N4q
    refine Gl.pre (fun _ k => st4.trans k) ?_
    have O_ := O_.keep K4 (allS g_b2 all0)
    have E_b2 := E_b2.keep K4
    have V_b3 := V_b3.keep K4 (ninS (own_ne_b3_b2) nin0)
    have Z4 : n0 ≤ T4.heap.size := Nat.le_trans Z3 K4.1
    have K4k := K3.trans K4 (allS (Or.inr sz_b2) all0)
    have F_value_b2 := Fv4
    have F_coder_b2 := Fc4
    have V_vb4 := Vs4
    have own_ne_vb4_b2 := hne4
    have own_ne_b2_vb4 := hne4.symm
    show Gl p.tables e below PP (T4.setTop (mkF m 34 #[.val (.int pn), .val (.long q), .second, .val (.int ((q.toInt32).toUInt32.toUInt16.toUInt32.toInt32)), .val (.int (((own_ushrL q (16 : Int32)).toInt32).toUInt32.toUInt16.toUInt32.toInt32)), .val (.int (((own_ushrL q (32 : Int32)).toInt32).toUInt32.toUInt16.toUInt32.toInt32))] [(.ref b2)]))
    rw [hPP]
    refine own_finAW (Q := (Q1 Z pn q cs h0 n0)) (Z := Z) (EL := own_EL) X4 hx hlk hS4 (Nat.le_refl _) Bd.returns rfl rfl (hb hby d1_34) ?_ (by rw [hh]; exact CR4.trans (CHv.at X4 hZ4 hEL CR4.1)) (by decide) (by decide)
    show Q1 Z pn q cs h0 n0 _ T4.heap _
    refine ⟨b2, rfl, N4, sz_b2, K4k, E_b2, vb4, ys4, co4, hco4, ?_, hne4, F_value_b2, F_coder_b2, V_vb4⟩
    rw [hln4]; exact hc1.symm
  · refine Gl.pre (fun _ k => XS.ifYes X0.here hx rfl (pc0 := 21) (pc' := 35) rfl (hb hby d1_21) rfl ((if0 _ _).trans (feq hc1).2) (by decide) (by decide) k) ?_
    show Gl p.tables e below PP (s₁.setTop (mkF m 35 #[.val (.int pn), .val (.long q), .second, .val (.int ((q.toInt32).toUInt32.toUInt16.toUInt32.toInt32)), .val (.int (((own_ushrL q (16 : Int32)).toInt32).toUInt32.toUInt16.toUInt32.toInt32)), .val (.int (((own_ushrL q (32 : Int32)).toInt32).toUInt32.toUInt16.toUInt32.toInt32))] []))
    refine Gl.pre (fun _ k => XS.iloadN X0.here hx rfl (hb hby d1_35) rfl k) ?_
    show Gl p.tables e below PP (s₁.setTop (mkF m 36 #[.val (.int pn), .val (.long q), .second, .val (.int ((q.toInt32).toUInt32.toUInt16.toUInt32.toInt32)), .val (.int (((own_ushrL q (16 : Int32)).toInt32).toUInt32.toUInt16.toUInt32.toInt32)), .val (.int (((own_ushrL q (32 : Int32)).toInt32).toUInt32.toUInt16.toUInt32.toInt32))] [(.int pn)]))
    refine Gl.pre (fun _ k => XS.iconst X0.here hx rfl (hb hby d1_36) k) ?_
    show Gl p.tables e below PP (s₁.setTop (mkF m 37 #[.val (.int pn), .val (.long q), .second, .val (.int ((q.toInt32).toUInt32.toUInt16.toUInt32.toInt32)), .val (.int (((own_ushrL q (16 : Int32)).toInt32).toUInt32.toUInt16.toUInt32.toInt32)), .val (.int (((own_ushrL q (32 : Int32)).toInt32).toUInt32.toUInt16.toUInt32.toInt32))] [(.int (1 : Int32)), (.int pn)]))
    by_cases hc5 : pn = (1 : Int32)
    · refine Gl.pre (fun _ k => XS.icmpNo X0.here hx rfl (hb hby d1_37) rfl (teq hc5).2 k) ?_
      show Gl p.tables e below PP (s₁.setTop (mkF m 40 #[.val (.int pn), .val (.long q), .second, .val (.int ((q.toInt32).toUInt32.toUInt16.toUInt32.toInt32)), .val (.int (((own_ushrL q (16 : Int32)).toInt32).toUInt32.toUInt16.toUInt32.toInt32)), .val (.int (((own_ushrL q (32 : Int32)).toInt32).toUInt32.toUInt16.toUInt32.toInt32))] []))
      obtain ⟨T6, h6, X6, e6, E6, A6, D6, -, st6⟩ := newO X0 hx hZ0 hown0 (hw _ (List.mem_of_getElem? (i := 4) rfl)) (hw _ (List.mem_of_getElem? (i := 5) rfl)) (hw _ (List.mem_of_getElem? (i := 6) rfl)) e0 (g := (mkF m 40 #[.val (.int pn), .val (.long q), .second, .val (.int ((q.toInt32).toUInt32.toUInt16.toUInt32.toInt32)), .val (.int (((own_ushrL q (16 : Int32)).toInt32).toUInt32.toUInt16.toUInt32.toInt32)), .val (.int (((own_ushrL q (32 : Int32)).toInt32).toUInt32.toUInt16.toUInt32.toInt32))] [])) rfl (hb hby d1_40) (by decide) (by decide)
      obtain ⟨b6, g6⟩ : ∃ z, z = h0.size := ⟨_, rfl⟩
      rw [← g6] at A6 D6 st6
      refine Gl.pre (fun _ k => st6 _ k) ?_
      have g_b6 : n0 ≤ b6 := Nat.le_trans Z0 (Nat.le_of_eq g6.symm)
      have sz_b6 : h0.size ≤ b6 := Nat.le_trans K0.1 (Nat.le_of_eq g6.symm)
      have Sf_b6 := Safe.ext E6 CR0.1 (Safe.new (Z := Z) (EL := own_EL) (vm := s.vm) (Nat.le_of_eq g6.symm))
      have CR6 := CR0.trans (CHr.ext E6 CR0.1)
      have O_ := O_.ext E6
      have Z6 : n0 ≤ h6.size := Nat.le_trans Z0 E6.1
      have hk6 := Nat.le_trans hk0 E6.1
      have K6 := K0.ext E6
      have E_b6 := A6
      have F_value_b6 : Fld Z h6 b6 "java/lang/String" "value" "[B" .null := D6 (Or.inr (hw _ (List.mem_of_getElem? (i := 20) rfl))) (ty := (.array .byte)) (by decide)
      have F_coder_b6 : Fld Z h6 b6 "java/lang/String" "coder" "B" (.int (0 : Int32)) := D6 (Or.inr (hw _ (List.mem_of_getElem? (i := 21) rfl))) (ty := .byte) (by decide)
      show Gl p.tables e below PP (T6.setTop (mkF m 43 #[.val (.int pn), .val (.long q), .second, .val (.int ((q.toInt32).toUInt32.toUInt16.toUInt32.toInt32)), .val (.int (((own_ushrL q (16 : Int32)).toInt32).toUInt32.toUInt16.toUInt32.toInt32)), .val (.int (((own_ushrL q (32 : Int32)).toInt32).toUInt32.toUInt16.toUInt32.toInt32))] [(.ref b6)]))
      refine Gl.pre (fun _ k => XS.dup X6.here hx rfl (hb hby d1_43) rfl rfl k) ?_
      show Gl p.tables e below PP (T6.setTop (mkF m 44 #[.val (.int pn), .val (.long q), .second, .val (.int ((q.toInt32).toUInt32.toUInt16.toUInt32.toInt32)), .val (.int (((own_ushrL q (16 : Int32)).toInt32).toUInt32.toUInt16.toUInt32.toInt32)), .val (.int (((own_ushrL q (32 : Int32)).toInt32).toUInt32.toUInt16.toUInt32.toInt32))] [(.ref b6), (.ref b6)]))
      refine Gl.pre (fun _ k => XS.iconst X6.here hx rfl (hb hby d1_44) k) ?_
      show Gl p.tables e below PP (T6.setTop (mkF m 45 #[.val (.int pn), .val (.long q), .second, .val (.int ((q.toInt32).toUInt32.toUInt16.toUInt32.toInt32)), .val (.int (((own_ushrL q (16 : Int32)).toInt32).toUInt32.toUInt16.toUInt32.toInt32)), .val (.int (((own_ushrL q (32 : Int32)).toInt32).toUInt32.toUInt16.toUInt32.toInt32))] [(.int (1 : Int32)), (.ref b6), (.ref b6)]))
      obtain ⟨T7, h7, k7, X7, e7, E7, A7, st7⟩ := newP X6 hx hZ0 (hw _ (List.mem_of_getElem? (i := 7) rfl)) e6 (g := (mkF m 45 #[.val (.int pn), .val (.long q), .second, .val (.int ((q.toInt32).toUInt32.toUInt16.toUInt32.toInt32)), .val (.int (((own_ushrL q (16 : Int32)).toInt32).toUInt32.toUInt16.toUInt32.toInt32)), .val (.int (((own_ushrL q (32 : Int32)).toInt32).toUInt32.toUInt16.toUInt32.toInt32))] [(.int (1 : Int32)), (.ref b6), (.ref b6)])) rfl (hb hby d1_45) rfl (by decide) (cap := 1) (by decide) (by decide) (by decide) (by decide)
      obtain ⟨b7, g7⟩ : ∃ z, z = h6.size := ⟨_, rfl⟩
      rw [← g7] at A7 st7
      refine Gl.pre (fun _ k => st7 _ k) ?_
      have own_ne_b6_b7 : b6 ≠ b7 := by have q := E_b6.lt; rw [g7]; exact Nat.ne_of_lt q
      have own_ne_b7_b6 : b7 ≠ b6 := own_ne_b6_b7.symm
      have g_b7 : n0 ≤ b7 := Nat.le_trans Z6 (Nat.le_of_eq g7.symm)
      have sz_b7 : h0.size ≤ b7 := Nat.le_trans K6.1 (Nat.le_of_eq g7.symm)
      have Sf_b7 := Safe.ext E7 CR6.1 (Safe.new (Z := Z) (EL := own_EL) (vm := s.vm) (Nat.le_of_eq g7.symm))
      have Sf_b6 := Safe.ext E7 CR6.1 Sf_b6
      have CR7 := CR6.trans (CHr.ext E7 CR6.1)
      have O_ := O_.ext E7
      have E_b6 := E_b6.ext E7
      have F_value_b6 := F_value_b6.ext E7
      have F_coder_b6 := F_coder_b6.ext E7
      have Z7 : n0 ≤ h7.size := Nat.le_trans Z6 E7.1
      have hk7 := Nat.le_trans hk6 E7.1
      have K7 := K6.ext E7
      have V_b7 : Bal Z h7 b7 .char [(0 : Int32)] := Bal.new (ty := .char) A7 (n := 1) (by decide) rfl
      show Gl p.tables e below PP (T7.setTop (mkF m 47 #[.val (.int pn), .val (.long q), .second, .val (.int ((q.toInt32).toUInt32.toUInt16.toUInt32.toInt32)), .val (.int (((own_ushrL q (16 : Int32)).toInt32).toUInt32.toUInt16.toUInt32.toInt32)), .val (.int (((own_ushrL q (32 : Int32)).toInt32).toUInt32.toUInt16.toUInt32.toInt32))] [(.ref b7), (.ref b6), (.ref b6)]))
      refine Gl.pre (fun _ k => XS.dup X7.here hx rfl (hb hby d1_47) rfl rfl k) ?_
      show Gl p.tables e below PP (T7.setTop (mkF m 48 #[.val (.int pn), .val (.long q), .second, .val (.int ((q.toInt32).toUInt32.toUInt16.toUInt32.toInt32)), .val (.int (((own_ushrL q (16 : Int32)).toInt32).toUInt32.toUInt16.toUInt32.toInt32)), .val (.int (((own_ushrL q (32 : Int32)).toInt32).toUInt32.toUInt16.toUInt32.toInt32))] [(.ref b7), (.ref b7), (.ref b6), (.ref b6)]))
      refine Gl.pre (fun _ k => XS.iconst X7.here hx rfl (hb hby d1_48) k) ?_
      show Gl p.tables e below PP (T7.setTop (mkF m 49 #[.val (.int pn), .val (.long q), .second, .val (.int ((q.toInt32).toUInt32.toUInt16.toUInt32.toInt32)), .val (.int (((own_ushrL q (16 : Int32)).toInt32).toUInt32.toUInt16.toUInt32.toInt32)), .val (.int (((own_ushrL q (32 : Int32)).toInt32).toUInt32.toUInt16.toUInt32.toInt32))] [(.int (0 : Int32)), (.ref b7), (.ref b7), (.ref b6), (.ref b6)]))
      refine Gl.pre (fun _ k => XS.iloadN X7.here hx rfl (hb hby d1_49) rfl k) ?_
      show Gl p.tables e below PP (T7.setTop (mkF m 50 #[.val (.int pn), .val (.long q), .second, .val (.int ((q.toInt32).toUInt32.toUInt16.toUInt32.toInt32)), .val (.int (((own_ushrL q (16 : Int32)).toInt32).toUInt32.toUInt16.toUInt32.toInt32)), .val (.int (((own_ushrL q (32 : Int32)).toInt32).toUInt32.toUInt16.toUInt32.toInt32))] [(.int ((q.toInt32).toUInt32.toUInt16.toUInt32.toInt32)), (.int (0 : Int32)), (.ref b7), (.ref b7), (.ref b6), (.ref b6)]))
      obtain ⟨T8, h8, X8, e8, W8, V8, st8⟩ := own_stC X7 hx hZ0 e7 V_b7 (j := (0 : Int32)) (i := 0) (by decide) (by decide) (Nat.lt_of_lt_of_eq (by decide : 0 < 1) rfl) (g := (mkF m 50 #[.val (.int pn), .val (.long q), .second, .val (.int ((q.toInt32).toUInt32.toUInt16.toUInt32.toInt32)), .val (.int (((own_ushrL q (16 : Int32)).toInt32).toUInt32.toUInt16.toUInt32.toInt32)), .val (.int (((own_ushrL q (32 : Int32)).toInt32).toUInt32.toUInt16.toUInt32.toInt32))] [(.int ((q.toInt32).toUInt32.toUInt16.toUInt32.toInt32)), (.int (0 : Int32)), (.ref b7), (.ref b7), (.ref b6), (.ref b6)])) rfl rfl (hb hby d1_50)
      refine Gl.pre (fun _ k => st8 _ k) ?_
      have Sf_b6 := Safe.wr W8 Sf_b7 CR7.1 Sf_b6
      have CR8 := CR7.trans (CHr.wr W8 Sf_b7 CR7.1)
      have Sf_b7 := Safe.wr W8 Sf_b7 CR7.1 Sf_b7
      have O_ := O_.wr W8 g_b7
      have E_b6 := E_b6.wr W8
      have F_value_b6 := F_value_b6.other W8 (Or.inl (own_ne_b6_b7))
      have F_coder_b6 := F_coder_b6.other W8 (Or.inl (own_ne_b6_b7))
      have Z8 : n0 ≤ h8.size := by rw [W8.size]; exact Z7
      have hk8 := Nat.le_trans hk7 (Nat.le_of_eq W8.size.symm)
      have N8 := Fr.snoc X8 N0 g_b7
      have K8 := K7.wr W8 (Or.inr sz_b7)
      have V_b7 : Bal Z h8 b7 .char [(nar .char ((q.toInt32).toUInt32.toUInt16.toUInt32.toInt32))] := V8
      show Gl p.tables e below PP (T8.setTop (mkF m 51 #[.val (.int pn), .val (.long q), .second, .val (.int ((q.toInt32).toUInt32.toUInt16.toUInt32.toInt32)), .val (.int (((own_ushrL q (16 : Int32)).toInt32).toUInt32.toUInt16.toUInt32.toInt32)), .val (.int (((own_ushrL q (32 : Int32)).toInt32).toUInt32.toUInt16.toUInt32.toInt32))] [(.ref b7), (.ref b6), (.ref b6)]))
      obtain ⟨_, _, ⟨T9, L9, k9, n9⟩, -, X9, ⟨Lc9, hQ9, l9, y9, z9⟩, st9⟩ := X8.specialBack hx (y := (⟨"java/lang/String", "<init>", "([C)V"⟩ : MethodName)) rfl hown0 (mvT hZ0 (hw _ (List.mem_of_getElem? (i := 8) rfl))) (mvT hZ0 (hw _ (List.mem_of_getElem? (i := 9) rfl))) (mvT hZ0 (hw _ (List.mem_of_getElem? (i := 10) rfl))) (by decide) (backOf (W := 1) (rms1 l Z a0 hw [] b6 b7 cs (nar .char ((q.toInt32).toUInt32.toUInt16.toUInt32.toInt32)) h8 n0 Z8 E_b6 F_value_b6 F_coder_b6 g_b6 V_b7 own_ne_b6_b7 own_ne_b7_b6 (own_cr _) SBC hcs SAD SHI SLO O_) hZ0 (hw _ (List.mem_of_getElem? (i := 10) rfl)) (hw _ (List.mem_of_getElem? (i := 6) rfl)) (by decide) (by decide)) (g := (mkF m 51 #[.val (.int pn), .val (.long q), .second, .val (.int ((q.toInt32).toUInt32.toUInt16.toUInt32.toInt32)), .val (.int (((own_ushrL q (16 : Int32)).toInt32).toUInt32.toUInt16.toUInt32.toInt32)), .val (.int (((own_ushrL q (32 : Int32)).toInt32).toUInt32.toUInt16.toUInt32.toInt32))] [(.ref b7), (.ref b6), (.ref b6)])) rfl (by rw [hml]; rfl) (Steps.refl _) (a := b6) (argsL := [(.ref b7)]) (rest := [(.ref b6)]) (lenOf pd_9 rfl) rfl (by show 2 * 0 + _ ≤ _; exact Nat.le_of_eq rfl) (hb hby d1_51) (fun _ _ => ⟨rfl, e8, (by decide : 2 + 2 ≤ _), (by decide : 5 + 3 ≤ _)⟩)
      dsimp only [Pt.U, Pt.locs, Pt.cells, Pt.slots] at X9 l9 y9 z9 st9 hQ9
      subst l9 y9 z9
      obtain ⟨rfl, N9q, K9, vb9, ys9, co9, hco9, hln9, hne9, Fv9, Fc9, Vs9⟩ := hQ9
      have N9 := Fr.app N8 N9q
      refine Gl.pre (fun _ k => st9.trans k) ?_
      have hs9 : ∀ x ∈ [b6], Safe Z own_EL _ _ x := (allS Sf_b6 all0)
      have Sf_b6 := Safe.keep K9 hs9 CR8.1 Sf_b6
      have Sf_b7 := Safe.keep K9 hs9 CR8.1 Sf_b7
      have CR9 := CR8.trans (CHr.keep K9 hs9 CR8.1)
      have O_ := O_.keep K9 (allS g_b6 all0)
      have E_b6 := E_b6.keep K9
      have V_b7 := V_b7.keep K9 (ninS (own_ne_b7_b6) nin0)
      have hk9 := Nat.le_trans hk8 K9.1
      have Z9 : n0 ≤ T9.heap.size := Nat.le_trans Z8 K9.1
      have K9k := K8.trans K9 (allS (Or.inr sz_b6) all0)
      have F_value_b6 := Fv9
      have F_coder_b6 := Fc9
      have V_vb9 := Vs9
      have own_ne_vb9_b6 := hne9
      have own_ne_b6_vb9 := hne9.symm
      show Gl p.tables e below PP (T9.setTop (mkF m 54 #[.val (.int pn), .val (.long q), .second, .val (.int ((q.toInt32).toUInt32.toUInt16.toUInt32.toInt32)), .val (.int (((own_ushrL q (16 : Int32)).toInt32).toUInt32.toUInt16.toUInt32.toInt32)), .val (.int (((own_ushrL q (32 : Int32)).toInt32).toUInt32.toUInt16.toUInt32.toInt32))] [(.ref b6)]))
      rw [hPP]
      refine own_finAW (Q := (Q1 Z pn q cs h0 n0)) (Z := Z) (EL := own_EL) X9 hx hlk hS0 hk9 Bd.returns rfl rfl (hb hby d1_54) ?_ (by rw [hh]; exact CR9.trans (CHv.at X9 hZ0 hEL CR9.1)) (by decide) (by decide)
      show Q1 Z pn q cs h0 n0 _ T9.heap _
      refine ⟨b6, rfl, N9, sz_b6, K9k, E_b6, vb9, ys9, co9, hco9, ?_, hne9, F_value_b6, F_coder_b6, V_vb9⟩
      rw [hln9]; exact hc5.symm
    · refine Gl.pre (fun _ k => XS.icmpYes X0.here hx rfl (pc0 := 37) (pc' := 55) rfl (hb hby d1_37) rfl (feq hc5).2 (by decide) (by decide) k) ?_
      show Gl p.tables e below PP (s₁.setTop (mkF m 55 #[.val (.int pn), .val (.long q), .second, .val (.int ((q.toInt32).toUInt32.toUInt16.toUInt32.toInt32)), .val (.int (((own_ushrL q (16 : Int32)).toInt32).toUInt32.toUInt16.toUInt32.toInt32)), .val (.int (((own_ushrL q (32 : Int32)).toInt32).toUInt32.toUInt16.toUInt32.toInt32))] []))
      refine Gl.pre (fun _ k => XS.iloadN X0.here hx rfl (hb hby d1_55) rfl k) ?_
      show Gl p.tables e below PP (s₁.setTop (mkF m 56 #[.val (.int pn), .val (.long q), .second, .val (.int ((q.toInt32).toUInt32.toUInt16.toUInt32.toInt32)), .val (.int (((own_ushrL q (16 : Int32)).toInt32).toUInt32.toUInt16.toUInt32.toInt32)), .val (.int (((own_ushrL q (32 : Int32)).toInt32).toUInt32.toUInt16.toUInt32.toInt32))] [(.int pn)]))
      refine Gl.pre (fun _ k => XS.iconst X0.here hx rfl (hb hby d1_56) k) ?_
      show Gl p.tables e below PP (s₁.setTop (mkF m 57 #[.val (.int pn), .val (.long q), .second, .val (.int ((q.toInt32).toUInt32.toUInt16.toUInt32.toInt32)), .val (.int (((own_ushrL q (16 : Int32)).toInt32).toUInt32.toUInt16.toUInt32.toInt32)), .val (.int (((own_ushrL q (32 : Int32)).toInt32).toUInt32.toUInt16.toUInt32.toInt32))] [(.int (2 : Int32)), (.int pn)]))
      by_cases hc10 : pn = (2 : Int32)
      · refine Gl.pre (fun _ k => XS.icmpNo X0.here hx rfl (hb hby d1_57) rfl (teq hc10).2 k) ?_
        show Gl p.tables e below PP (s₁.setTop (mkF m 60 #[.val (.int pn), .val (.long q), .second, .val (.int ((q.toInt32).toUInt32.toUInt16.toUInt32.toInt32)), .val (.int (((own_ushrL q (16 : Int32)).toInt32).toUInt32.toUInt16.toUInt32.toInt32)), .val (.int (((own_ushrL q (32 : Int32)).toInt32).toUInt32.toUInt16.toUInt32.toInt32))] []))
        obtain ⟨T11, h11, X11, e11, E11, A11, D11, -, st11⟩ := newO X0 hx hZ0 hown0 (hw _ (List.mem_of_getElem? (i := 4) rfl)) (hw _ (List.mem_of_getElem? (i := 5) rfl)) (hw _ (List.mem_of_getElem? (i := 6) rfl)) e0 (g := (mkF m 60 #[.val (.int pn), .val (.long q), .second, .val (.int ((q.toInt32).toUInt32.toUInt16.toUInt32.toInt32)), .val (.int (((own_ushrL q (16 : Int32)).toInt32).toUInt32.toUInt16.toUInt32.toInt32)), .val (.int (((own_ushrL q (32 : Int32)).toInt32).toUInt32.toUInt16.toUInt32.toInt32))] [])) rfl (hb hby d1_60) (by decide) (by decide)
        obtain ⟨b11, g11⟩ : ∃ z, z = h0.size := ⟨_, rfl⟩
        rw [← g11] at A11 D11 st11
        refine Gl.pre (fun _ k => st11 _ k) ?_
        have g_b11 : n0 ≤ b11 := Nat.le_trans Z0 (Nat.le_of_eq g11.symm)
        have sz_b11 : h0.size ≤ b11 := Nat.le_trans K0.1 (Nat.le_of_eq g11.symm)
        have Sf_b11 := Safe.ext E11 CR0.1 (Safe.new (Z := Z) (EL := own_EL) (vm := s.vm) (Nat.le_of_eq g11.symm))
        have CR11 := CR0.trans (CHr.ext E11 CR0.1)
        have O_ := O_.ext E11
        have Z11 : n0 ≤ h11.size := Nat.le_trans Z0 E11.1
        have hk11 := Nat.le_trans hk0 E11.1
        have K11 := K0.ext E11
        have E_b11 := A11
        have F_value_b11 : Fld Z h11 b11 "java/lang/String" "value" "[B" .null := D11 (Or.inr (hw _ (List.mem_of_getElem? (i := 20) rfl))) (ty := (.array .byte)) (by decide)
        have F_coder_b11 : Fld Z h11 b11 "java/lang/String" "coder" "B" (.int (0 : Int32)) := D11 (Or.inr (hw _ (List.mem_of_getElem? (i := 21) rfl))) (ty := .byte) (by decide)
        show Gl p.tables e below PP (T11.setTop (mkF m 63 #[.val (.int pn), .val (.long q), .second, .val (.int ((q.toInt32).toUInt32.toUInt16.toUInt32.toInt32)), .val (.int (((own_ushrL q (16 : Int32)).toInt32).toUInt32.toUInt16.toUInt32.toInt32)), .val (.int (((own_ushrL q (32 : Int32)).toInt32).toUInt32.toUInt16.toUInt32.toInt32))] [(.ref b11)]))
        refine Gl.pre (fun _ k => XS.dup X11.here hx rfl (hb hby d1_63) rfl rfl k) ?_
        show Gl p.tables e below PP (T11.setTop (mkF m 64 #[.val (.int pn), .val (.long q), .second, .val (.int ((q.toInt32).toUInt32.toUInt16.toUInt32.toInt32)), .val (.int (((own_ushrL q (16 : Int32)).toInt32).toUInt32.toUInt16.toUInt32.toInt32)), .val (.int (((own_ushrL q (32 : Int32)).toInt32).toUInt32.toUInt16.toUInt32.toInt32))] [(.ref b11), (.ref b11)]))
        refine Gl.pre (fun _ k => XS.iconst X11.here hx rfl (hb hby d1_64) k) ?_
        show Gl p.tables e below PP (T11.setTop (mkF m 65 #[.val (.int pn), .val (.long q), .second, .val (.int ((q.toInt32).toUInt32.toUInt16.toUInt32.toInt32)), .val (.int (((own_ushrL q (16 : Int32)).toInt32).toUInt32.toUInt16.toUInt32.toInt32)), .val (.int (((own_ushrL q (32 : Int32)).toInt32).toUInt32.toUInt16.toUInt32.toInt32))] [(.int (2 : Int32)), (.ref b11), (.ref b11)]))
        obtain ⟨T12, h12, k12, X12, e12, E12, A12, st12⟩ := newP X11 hx hZ0 (hw _ (List.mem_of_getElem? (i := 7) rfl)) e11 (g := (mkF m 65 #[.val (.int pn), .val (.long q), .second, .val (.int ((q.toInt32).toUInt32.toUInt16.toUInt32.toInt32)), .val (.int (((own_ushrL q (16 : Int32)).toInt32).toUInt32.toUInt16.toUInt32.toInt32)), .val (.int (((own_ushrL q (32 : Int32)).toInt32).toUInt32.toUInt16.toUInt32.toInt32))] [(.int (2 : Int32)), (.ref b11), (.ref b11)])) rfl (hb hby d1_65) rfl (by decide) (cap := 2) (by decide) (by decide) (by decide) (by decide)
        obtain ⟨b12, g12⟩ : ∃ z, z = h11.size := ⟨_, rfl⟩
        rw [← g12] at A12 st12
        refine Gl.pre (fun _ k => st12 _ k) ?_
        have own_ne_b11_b12 : b11 ≠ b12 := by have q := E_b11.lt; rw [g12]; exact Nat.ne_of_lt q
        have own_ne_b12_b11 : b12 ≠ b11 := own_ne_b11_b12.symm
        have g_b12 : n0 ≤ b12 := Nat.le_trans Z11 (Nat.le_of_eq g12.symm)
        have sz_b12 : h0.size ≤ b12 := Nat.le_trans K11.1 (Nat.le_of_eq g12.symm)
        have Sf_b12 := Safe.ext E12 CR11.1 (Safe.new (Z := Z) (EL := own_EL) (vm := s.vm) (Nat.le_of_eq g12.symm))
        have Sf_b11 := Safe.ext E12 CR11.1 Sf_b11
        have CR12 := CR11.trans (CHr.ext E12 CR11.1)
        have O_ := O_.ext E12
        have E_b11 := E_b11.ext E12
        have F_value_b11 := F_value_b11.ext E12
        have F_coder_b11 := F_coder_b11.ext E12
        have Z12 : n0 ≤ h12.size := Nat.le_trans Z11 E12.1
        have hk12 := Nat.le_trans hk11 E12.1
        have K12 := K11.ext E12
        have V_b12 : Bal Z h12 b12 .char [(0 : Int32), (0 : Int32)] := Bal.new (ty := .char) A12 (n := 2) (by decide) rfl
        show Gl p.tables e below PP (T12.setTop (mkF m 67 #[.val (.int pn), .val (.long q), .second, .val (.int ((q.toInt32).toUInt32.toUInt16.toUInt32.toInt32)), .val (.int (((own_ushrL q (16 : Int32)).toInt32).toUInt32.toUInt16.toUInt32.toInt32)), .val (.int (((own_ushrL q (32 : Int32)).toInt32).toUInt32.toUInt16.toUInt32.toInt32))] [(.ref b12), (.ref b11), (.ref b11)]))
        refine Gl.pre (fun _ k => XS.dup X12.here hx rfl (hb hby d1_67) rfl rfl k) ?_
        show Gl p.tables e below PP (T12.setTop (mkF m 68 #[.val (.int pn), .val (.long q), .second, .val (.int ((q.toInt32).toUInt32.toUInt16.toUInt32.toInt32)), .val (.int (((own_ushrL q (16 : Int32)).toInt32).toUInt32.toUInt16.toUInt32.toInt32)), .val (.int (((own_ushrL q (32 : Int32)).toInt32).toUInt32.toUInt16.toUInt32.toInt32))] [(.ref b12), (.ref b12), (.ref b11), (.ref b11)]))
        refine Gl.pre (fun _ k => XS.iconst X12.here hx rfl (hb hby d1_68) k) ?_
        show Gl p.tables e below PP (T12.setTop (mkF m 69 #[.val (.int pn), .val (.long q), .second, .val (.int ((q.toInt32).toUInt32.toUInt16.toUInt32.toInt32)), .val (.int (((own_ushrL q (16 : Int32)).toInt32).toUInt32.toUInt16.toUInt32.toInt32)), .val (.int (((own_ushrL q (32 : Int32)).toInt32).toUInt32.toUInt16.toUInt32.toInt32))] [(.int (0 : Int32)), (.ref b12), (.ref b12), (.ref b11), (.ref b11)]))
        refine Gl.pre (fun _ k => XS.iloadN X12.here hx rfl (hb hby d1_69) rfl k) ?_
        show Gl p.tables e below PP (T12.setTop (mkF m 70 #[.val (.int pn), .val (.long q), .second, .val (.int ((q.toInt32).toUInt32.toUInt16.toUInt32.toInt32)), .val (.int (((own_ushrL q (16 : Int32)).toInt32).toUInt32.toUInt16.toUInt32.toInt32)), .val (.int (((own_ushrL q (32 : Int32)).toInt32).toUInt32.toUInt16.toUInt32.toInt32))] [(.int ((q.toInt32).toUInt32.toUInt16.toUInt32.toInt32)), (.int (0 : Int32)), (.ref b12), (.ref b12), (.ref b11), (.ref b11)]))
        obtain ⟨T13, h13, X13, e13, W13, V13, st13⟩ := own_stC X12 hx hZ0 e12 V_b12 (j := (0 : Int32)) (i := 0) (by decide) (by decide) (Nat.lt_of_lt_of_eq (by decide : 0 < 2) rfl) (g := (mkF m 70 #[.val (.int pn), .val (.long q), .second, .val (.int ((q.toInt32).toUInt32.toUInt16.toUInt32.toInt32)), .val (.int (((own_ushrL q (16 : Int32)).toInt32).toUInt32.toUInt16.toUInt32.toInt32)), .val (.int (((own_ushrL q (32 : Int32)).toInt32).toUInt32.toUInt16.toUInt32.toInt32))] [(.int ((q.toInt32).toUInt32.toUInt16.toUInt32.toInt32)), (.int (0 : Int32)), (.ref b12), (.ref b12), (.ref b11), (.ref b11)])) rfl rfl (hb hby d1_70)
        refine Gl.pre (fun _ k => st13 _ k) ?_
        have Sf_b11 := Safe.wr W13 Sf_b12 CR12.1 Sf_b11
        have CR13 := CR12.trans (CHr.wr W13 Sf_b12 CR12.1)
        have Sf_b12 := Safe.wr W13 Sf_b12 CR12.1 Sf_b12
        have O_ := O_.wr W13 g_b12
        have E_b11 := E_b11.wr W13
        have F_value_b11 := F_value_b11.other W13 (Or.inl (own_ne_b11_b12))
        have F_coder_b11 := F_coder_b11.other W13 (Or.inl (own_ne_b11_b12))
        have Z13 : n0 ≤ h13.size := by rw [W13.size]; exact Z12
        have hk13 := Nat.le_trans hk12 (Nat.le_of_eq W13.size.symm)
        have N13 := Fr.snoc X13 N0 g_b12
        have K13 := K12.wr W13 (Or.inr sz_b12)
        have V_b12 : Bal Z h13 b12 .char [(nar .char ((q.toInt32).toUInt32.toUInt16.toUInt32.toInt32)), (0 : Int32)] := V13
        show Gl p.tables e below PP (T13.setTop (mkF m 71 #[.val (.int pn), .val (.long q), .second, .val (.int ((q.toInt32).toUInt32.toUInt16.toUInt32.toInt32)), .val (.int (((own_ushrL q (16 : Int32)).toInt32).toUInt32.toUInt16.toUInt32.toInt32)), .val (.int (((own_ushrL q (32 : Int32)).toInt32).toUInt32.toUInt16.toUInt32.toInt32))] [(.ref b12), (.ref b11), (.ref b11)]))
        refine Gl.pre (fun _ k => XS.dup X13.here hx rfl (hb hby d1_71) rfl rfl k) ?_
        show Gl p.tables e below PP (T13.setTop (mkF m 72 #[.val (.int pn), .val (.long q), .second, .val (.int ((q.toInt32).toUInt32.toUInt16.toUInt32.toInt32)), .val (.int (((own_ushrL q (16 : Int32)).toInt32).toUInt32.toUInt16.toUInt32.toInt32)), .val (.int (((own_ushrL q (32 : Int32)).toInt32).toUInt32.toUInt16.toUInt32.toInt32))] [(.ref b12), (.ref b12), (.ref b11), (.ref b11)]))
        refine Gl.pre (fun _ k => XS.iconst X13.here hx rfl (hb hby d1_72) k) ?_
        show Gl p.tables e below PP (T13.setTop (mkF m 73 #[.val (.int pn), .val (.long q), .second, .val (.int ((q.toInt32).toUInt32.toUInt16.toUInt32.toInt32)), .val (.int (((own_ushrL q (16 : Int32)).toInt32).toUInt32.toUInt16.toUInt32.toInt32)), .val (.int (((own_ushrL q (32 : Int32)).toInt32).toUInt32.toUInt16.toUInt32.toInt32))] [(.int (1 : Int32)), (.ref b12), (.ref b12), (.ref b11), (.ref b11)]))
        refine Gl.pre (fun _ k => XS.iload X13.here hx rfl (hb hby d1_73) rfl k) ?_
        show Gl p.tables e below PP (T13.setTop (mkF m 75 #[.val (.int pn), .val (.long q), .second, .val (.int ((q.toInt32).toUInt32.toUInt16.toUInt32.toInt32)), .val (.int (((own_ushrL q (16 : Int32)).toInt32).toUInt32.toUInt16.toUInt32.toInt32)), .val (.int (((own_ushrL q (32 : Int32)).toInt32).toUInt32.toUInt16.toUInt32.toInt32))] [(.int (((own_ushrL q (16 : Int32)).toInt32).toUInt32.toUInt16.toUInt32.toInt32)), (.int (1 : Int32)), (.ref b12), (.ref b12), (.ref b11), (.ref b11)]))
        obtain ⟨T14, h14, X14, e14, W14, V14, st14⟩ := own_stC X13 hx hZ0 e13 V_b12 (j := (1 : Int32)) (i := 1) (by decide) (by decide) (Nat.lt_of_lt_of_eq (by decide : 1 < 2) rfl) (g := (mkF m 75 #[.val (.int pn), .val (.long q), .second, .val (.int ((q.toInt32).toUInt32.toUInt16.toUInt32.toInt32)), .val (.int (((own_ushrL q (16 : Int32)).toInt32).toUInt32.toUInt16.toUInt32.toInt32)), .val (.int (((own_ushrL q (32 : Int32)).toInt32).toUInt32.toUInt16.toUInt32.toInt32))] [(.int (((own_ushrL q (16 : Int32)).toInt32).toUInt32.toUInt16.toUInt32.toInt32)), (.int (1 : Int32)), (.ref b12), (.ref b12), (.ref b11), (.ref b11)])) rfl rfl (hb hby d1_75)
        refine Gl.pre (fun _ k => st14 _ k) ?_
        have Sf_b11 := Safe.wr W14 Sf_b12 CR13.1 Sf_b11
        have CR14 := CR13.trans (CHr.wr W14 Sf_b12 CR13.1)
        have Sf_b12 := Safe.wr W14 Sf_b12 CR13.1 Sf_b12
        have O_ := O_.wr W14 g_b12
        have E_b11 := E_b11.wr W14
        have F_value_b11 := F_value_b11.other W14 (Or.inl (own_ne_b11_b12))
        have F_coder_b11 := F_coder_b11.other W14 (Or.inl (own_ne_b11_b12))
        have Z14 : n0 ≤ h14.size := by rw [W14.size]; exact Z13
        have hk14 := Nat.le_trans hk13 (Nat.le_of_eq W14.size.symm)
        have N14 := Fr.snoc X14 N13 g_b12
        have K14 := K13.wr W14 (Or.inr sz_b12)
        have V_b12 : Bal Z h14 b12 .char [(nar .char ((q.toInt32).toUInt32.toUInt16.toUInt32.toInt32)), (nar .char (((own_ushrL q (16 : Int32)).toInt32).toUInt32.toUInt16.toUInt32.toInt32))] := V14
        show Gl p.tables e below PP (T14.setTop (mkF m 76 #[.val (.int pn), .val (.long q), .second, .val (.int ((q.toInt32).toUInt32.toUInt16.toUInt32.toInt32)), .val (.int (((own_ushrL q (16 : Int32)).toInt32).toUInt32.toUInt16.toUInt32.toInt32)), .val (.int (((own_ushrL q (32 : Int32)).toInt32).toUInt32.toUInt16.toUInt32.toInt32))] [(.ref b12), (.ref b11), (.ref b11)]))
        obtain ⟨_, _, ⟨T15, L15, k15, n15⟩, -, X15, ⟨Lc15, hQ15, l15, y15, z15⟩, st15⟩ := X14.specialBack hx (y := (⟨"java/lang/String", "<init>", "([C)V"⟩ : MethodName)) rfl hown0 (mvT hZ0 (hw _ (List.mem_of_getElem? (i := 8) rfl))) (mvT hZ0 (hw _ (List.mem_of_getElem? (i := 9) rfl))) (mvT hZ0 (hw _ (List.mem_of_getElem? (i := 10) rfl))) (by decide) (backOf (W := 1) (rms2 l Z a0 hw [] b11 b12 cs (nar .char ((q.toInt32).toUInt32.toUInt16.toUInt32.toInt32)) (nar .char (((own_ushrL q (16 : Int32)).toInt32).toUInt32.toUInt16.toUInt32.toInt32)) h14 n0 Z14 E_b11 F_value_b11 F_coder_b11 g_b11 V_b12 own_ne_b11_b12 own_ne_b12_b11 (own_cr _) (own_cr _) SBC hcs SAD SHI SLO O_) hZ0 (hw _ (List.mem_of_getElem? (i := 10) rfl)) (hw _ (List.mem_of_getElem? (i := 6) rfl)) (by decide) (by decide)) (g := (mkF m 76 #[.val (.int pn), .val (.long q), .second, .val (.int ((q.toInt32).toUInt32.toUInt16.toUInt32.toInt32)), .val (.int (((own_ushrL q (16 : Int32)).toInt32).toUInt32.toUInt16.toUInt32.toInt32)), .val (.int (((own_ushrL q (32 : Int32)).toInt32).toUInt32.toUInt16.toUInt32.toInt32))] [(.ref b12), (.ref b11), (.ref b11)])) rfl (by rw [hml]; rfl) (Steps.refl _) (a := b11) (argsL := [(.ref b12)]) (rest := [(.ref b11)]) (lenOf pd_9 rfl) rfl (by show 2 * 0 + _ ≤ _; exact Nat.le_of_eq rfl) (hb hby d1_76) (fun _ _ => ⟨rfl, e14, (by decide : 2 + 2 ≤ _), (by decide : 6 + 6 ≤ _)⟩)
        dsimp only [Pt.U, Pt.locs, Pt.cells, Pt.slots] at X15 l15 y15 z15 st15 hQ15
        subst l15 y15 z15
        obtain ⟨rfl, N15q, K15, vb15, ys15, co15, hco15, hln15, hne15, Fv15, Fc15, Vs15⟩ := hQ15
        have N15 := Fr.app N14 N15q
        refine Gl.pre (fun _ k => st15.trans k) ?_
        have hs15 : ∀ x ∈ [b11], Safe Z own_EL _ _ x := (allS Sf_b11 all0)
        have Sf_b11 := Safe.keep K15 hs15 CR14.1 Sf_b11
        have Sf_b12 := Safe.keep K15 hs15 CR14.1 Sf_b12
        have CR15 := CR14.trans (CHr.keep K15 hs15 CR14.1)
        have O_ := O_.keep K15 (allS g_b11 all0)
        have E_b11 := E_b11.keep K15
        have V_b12 := V_b12.keep K15 (ninS (own_ne_b12_b11) nin0)
        have hk15 := Nat.le_trans hk14 K15.1
        have Z15 : n0 ≤ T15.heap.size := Nat.le_trans Z14 K15.1
        have K15k := K14.trans K15 (allS (Or.inr sz_b11) all0)
        have F_value_b11 := Fv15
        have F_coder_b11 := Fc15
        have V_vb15 := Vs15
        have own_ne_vb15_b11 := hne15
        have own_ne_b11_vb15 := hne15.symm
        show Gl p.tables e below PP (T15.setTop (mkF m 79 #[.val (.int pn), .val (.long q), .second, .val (.int ((q.toInt32).toUInt32.toUInt16.toUInt32.toInt32)), .val (.int (((own_ushrL q (16 : Int32)).toInt32).toUInt32.toUInt16.toUInt32.toInt32)), .val (.int (((own_ushrL q (32 : Int32)).toInt32).toUInt32.toUInt16.toUInt32.toInt32))] [(.ref b11)]))
        rw [hPP]
        refine own_finAW (Q := (Q1 Z pn q cs h0 n0)) (Z := Z) (EL := own_EL) X15 hx hlk hS0 hk15 Bd.returns rfl rfl (hb hby d1_79) ?_ (by rw [hh]; exact CR15.trans (CHv.at X15 hZ0 hEL CR15.1)) (by decide) (by decide)
        show Q1 Z pn q cs h0 n0 _ T15.heap _
        refine ⟨b11, rfl, N15, sz_b11, K15k, E_b11, vb15, ys15, co15, hco15, ?_, hne15, F_value_b11, F_coder_b11, V_vb15⟩
        rw [hln15]; exact hc10.symm
      · refine Gl.pre (fun _ k => XS.icmpYes X0.here hx rfl (pc0 := 57) (pc' := 80) rfl (hb hby d1_57) rfl (feq hc10).2 (by decide) (by decide) k) ?_
        show Gl p.tables e below PP (s₁.setTop (mkF m 80 #[.val (.int pn), .val (.long q), .second, .val (.int ((q.toInt32).toUInt32.toUInt16.toUInt32.toInt32)), .val (.int (((own_ushrL q (16 : Int32)).toInt32).toUInt32.toUInt16.toUInt32.toInt32)), .val (.int (((own_ushrL q (32 : Int32)).toInt32).toUInt32.toUInt16.toUInt32.toInt32))] []))
        obtain ⟨T16, h16, X16, e16, E16, A16, D16, -, st16⟩ := newO X0 hx hZ0 hown0 (hw _ (List.mem_of_getElem? (i := 4) rfl)) (hw _ (List.mem_of_getElem? (i := 5) rfl)) (hw _ (List.mem_of_getElem? (i := 6) rfl)) e0 (g := (mkF m 80 #[.val (.int pn), .val (.long q), .second, .val (.int ((q.toInt32).toUInt32.toUInt16.toUInt32.toInt32)), .val (.int (((own_ushrL q (16 : Int32)).toInt32).toUInt32.toUInt16.toUInt32.toInt32)), .val (.int (((own_ushrL q (32 : Int32)).toInt32).toUInt32.toUInt16.toUInt32.toInt32))] [])) rfl (hb hby d1_80) (by decide) (by decide)
        obtain ⟨b16, g16⟩ : ∃ z, z = h0.size := ⟨_, rfl⟩
        rw [← g16] at A16 D16 st16
        refine Gl.pre (fun _ k => st16 _ k) ?_
        have g_b16 : n0 ≤ b16 := Nat.le_trans Z0 (Nat.le_of_eq g16.symm)
        have sz_b16 : h0.size ≤ b16 := Nat.le_trans K0.1 (Nat.le_of_eq g16.symm)
        have Sf_b16 := Safe.ext E16 CR0.1 (Safe.new (Z := Z) (EL := own_EL) (vm := s.vm) (Nat.le_of_eq g16.symm))
        have CR16 := CR0.trans (CHr.ext E16 CR0.1)
        have O_ := O_.ext E16
        have Z16 : n0 ≤ h16.size := Nat.le_trans Z0 E16.1
        have hk16 := Nat.le_trans hk0 E16.1
        have K16 := K0.ext E16
        have E_b16 := A16
        have F_value_b16 : Fld Z h16 b16 "java/lang/String" "value" "[B" .null := D16 (Or.inr (hw _ (List.mem_of_getElem? (i := 20) rfl))) (ty := (.array .byte)) (by decide)
        have F_coder_b16 : Fld Z h16 b16 "java/lang/String" "coder" "B" (.int (0 : Int32)) := D16 (Or.inr (hw _ (List.mem_of_getElem? (i := 21) rfl))) (ty := .byte) (by decide)
        show Gl p.tables e below PP (T16.setTop (mkF m 83 #[.val (.int pn), .val (.long q), .second, .val (.int ((q.toInt32).toUInt32.toUInt16.toUInt32.toInt32)), .val (.int (((own_ushrL q (16 : Int32)).toInt32).toUInt32.toUInt16.toUInt32.toInt32)), .val (.int (((own_ushrL q (32 : Int32)).toInt32).toUInt32.toUInt16.toUInt32.toInt32))] [(.ref b16)]))
        refine Gl.pre (fun _ k => XS.dup X16.here hx rfl (hb hby d1_83) rfl rfl k) ?_
        show Gl p.tables e below PP (T16.setTop (mkF m 84 #[.val (.int pn), .val (.long q), .second, .val (.int ((q.toInt32).toUInt32.toUInt16.toUInt32.toInt32)), .val (.int (((own_ushrL q (16 : Int32)).toInt32).toUInt32.toUInt16.toUInt32.toInt32)), .val (.int (((own_ushrL q (32 : Int32)).toInt32).toUInt32.toUInt16.toUInt32.toInt32))] [(.ref b16), (.ref b16)]))
        refine Gl.pre (fun _ k => XS.iconst X16.here hx rfl (hb hby d1_84) k) ?_
        show Gl p.tables e below PP (T16.setTop (mkF m 85 #[.val (.int pn), .val (.long q), .second, .val (.int ((q.toInt32).toUInt32.toUInt16.toUInt32.toInt32)), .val (.int (((own_ushrL q (16 : Int32)).toInt32).toUInt32.toUInt16.toUInt32.toInt32)), .val (.int (((own_ushrL q (32 : Int32)).toInt32).toUInt32.toUInt16.toUInt32.toInt32))] [(.int (3 : Int32)), (.ref b16), (.ref b16)]))
        obtain ⟨T17, h17, k17, X17, e17, E17, A17, st17⟩ := newP X16 hx hZ0 (hw _ (List.mem_of_getElem? (i := 7) rfl)) e16 (g := (mkF m 85 #[.val (.int pn), .val (.long q), .second, .val (.int ((q.toInt32).toUInt32.toUInt16.toUInt32.toInt32)), .val (.int (((own_ushrL q (16 : Int32)).toInt32).toUInt32.toUInt16.toUInt32.toInt32)), .val (.int (((own_ushrL q (32 : Int32)).toInt32).toUInt32.toUInt16.toUInt32.toInt32))] [(.int (3 : Int32)), (.ref b16), (.ref b16)])) rfl (hb hby d1_85) rfl (by decide) (cap := 3) (by decide) (by decide) (by decide) (by decide)
        obtain ⟨b17, g17⟩ : ∃ z, z = h16.size := ⟨_, rfl⟩
        rw [← g17] at A17 st17
        refine Gl.pre (fun _ k => st17 _ k) ?_
        have own_ne_b16_b17 : b16 ≠ b17 := by have q := E_b16.lt; rw [g17]; exact Nat.ne_of_lt q
        have own_ne_b17_b16 : b17 ≠ b16 := own_ne_b16_b17.symm
        have g_b17 : n0 ≤ b17 := Nat.le_trans Z16 (Nat.le_of_eq g17.symm)
        have sz_b17 : h0.size ≤ b17 := Nat.le_trans K16.1 (Nat.le_of_eq g17.symm)
        have Sf_b17 := Safe.ext E17 CR16.1 (Safe.new (Z := Z) (EL := own_EL) (vm := s.vm) (Nat.le_of_eq g17.symm))
        have Sf_b16 := Safe.ext E17 CR16.1 Sf_b16
        have CR17 := CR16.trans (CHr.ext E17 CR16.1)
        have O_ := O_.ext E17
        have E_b16 := E_b16.ext E17
        have F_value_b16 := F_value_b16.ext E17
        have F_coder_b16 := F_coder_b16.ext E17
        have Z17 : n0 ≤ h17.size := Nat.le_trans Z16 E17.1
        have hk17 := Nat.le_trans hk16 E17.1
        have K17 := K16.ext E17
        have V_b17 : Bal Z h17 b17 .char [(0 : Int32), (0 : Int32), (0 : Int32)] := Bal.new (ty := .char) A17 (n := 3) (by decide) rfl
        show Gl p.tables e below PP (T17.setTop (mkF m 87 #[.val (.int pn), .val (.long q), .second, .val (.int ((q.toInt32).toUInt32.toUInt16.toUInt32.toInt32)), .val (.int (((own_ushrL q (16 : Int32)).toInt32).toUInt32.toUInt16.toUInt32.toInt32)), .val (.int (((own_ushrL q (32 : Int32)).toInt32).toUInt32.toUInt16.toUInt32.toInt32))] [(.ref b17), (.ref b16), (.ref b16)]))
        refine Gl.pre (fun _ k => XS.dup X17.here hx rfl (hb hby d1_87) rfl rfl k) ?_
        show Gl p.tables e below PP (T17.setTop (mkF m 88 #[.val (.int pn), .val (.long q), .second, .val (.int ((q.toInt32).toUInt32.toUInt16.toUInt32.toInt32)), .val (.int (((own_ushrL q (16 : Int32)).toInt32).toUInt32.toUInt16.toUInt32.toInt32)), .val (.int (((own_ushrL q (32 : Int32)).toInt32).toUInt32.toUInt16.toUInt32.toInt32))] [(.ref b17), (.ref b17), (.ref b16), (.ref b16)]))
        refine Gl.pre (fun _ k => XS.iconst X17.here hx rfl (hb hby d1_88) k) ?_
        show Gl p.tables e below PP (T17.setTop (mkF m 89 #[.val (.int pn), .val (.long q), .second, .val (.int ((q.toInt32).toUInt32.toUInt16.toUInt32.toInt32)), .val (.int (((own_ushrL q (16 : Int32)).toInt32).toUInt32.toUInt16.toUInt32.toInt32)), .val (.int (((own_ushrL q (32 : Int32)).toInt32).toUInt32.toUInt16.toUInt32.toInt32))] [(.int (0 : Int32)), (.ref b17), (.ref b17), (.ref b16), (.ref b16)]))
        refine Gl.pre (fun _ k => XS.iloadN X17.here hx rfl (hb hby d1_89) rfl k) ?_
        show Gl p.tables e below PP (T17.setTop (mkF m 90 #[.val (.int pn), .val (.long q), .second, .val (.int ((q.toInt32).toUInt32.toUInt16.toUInt32.toInt32)), .val (.int (((own_ushrL q (16 : Int32)).toInt32).toUInt32.toUInt16.toUInt32.toInt32)), .val (.int (((own_ushrL q (32 : Int32)).toInt32).toUInt32.toUInt16.toUInt32.toInt32))] [(.int ((q.toInt32).toUInt32.toUInt16.toUInt32.toInt32)), (.int (0 : Int32)), (.ref b17), (.ref b17), (.ref b16), (.ref b16)]))
        obtain ⟨T18, h18, X18, e18, W18, V18, st18⟩ := own_stC X17 hx hZ0 e17 V_b17 (j := (0 : Int32)) (i := 0) (by decide) (by decide) (Nat.lt_of_lt_of_eq (by decide : 0 < 3) rfl) (g := (mkF m 90 #[.val (.int pn), .val (.long q), .second, .val (.int ((q.toInt32).toUInt32.toUInt16.toUInt32.toInt32)), .val (.int (((own_ushrL q (16 : Int32)).toInt32).toUInt32.toUInt16.toUInt32.toInt32)), .val (.int (((own_ushrL q (32 : Int32)).toInt32).toUInt32.toUInt16.toUInt32.toInt32))] [(.int ((q.toInt32).toUInt32.toUInt16.toUInt32.toInt32)), (.int (0 : Int32)), (.ref b17), (.ref b17), (.ref b16), (.ref b16)])) rfl rfl (hb hby d1_90)
        refine Gl.pre (fun _ k => st18 _ k) ?_
        have Sf_b16 := Safe.wr W18 Sf_b17 CR17.1 Sf_b16
        have CR18 := CR17.trans (CHr.wr W18 Sf_b17 CR17.1)
        have Sf_b17 := Safe.wr W18 Sf_b17 CR17.1 Sf_b17
        have O_ := O_.wr W18 g_b17
        have E_b16 := E_b16.wr W18
        have F_value_b16 := F_value_b16.other W18 (Or.inl (own_ne_b16_b17))
        have F_coder_b16 := F_coder_b16.other W18 (Or.inl (own_ne_b16_b17))
        have Z18 : n0 ≤ h18.size := by rw [W18.size]; exact Z17
        have hk18 := Nat.le_trans hk17 (Nat.le_of_eq W18.size.symm)
        have N18 := Fr.snoc X18 N0 g_b17
        have K18 := K17.wr W18 (Or.inr sz_b17)
        have V_b17 : Bal Z h18 b17 .char [(nar .char ((q.toInt32).toUInt32.toUInt16.toUInt32.toInt32)), (0 : Int32), (0 : Int32)] := V18
        show Gl p.tables e below PP (T18.setTop (mkF m 91 #[.val (.int pn), .val (.long q), .second, .val (.int ((q.toInt32).toUInt32.toUInt16.toUInt32.toInt32)), .val (.int (((own_ushrL q (16 : Int32)).toInt32).toUInt32.toUInt16.toUInt32.toInt32)), .val (.int (((own_ushrL q (32 : Int32)).toInt32).toUInt32.toUInt16.toUInt32.toInt32))] [(.ref b17), (.ref b16), (.ref b16)]))
        refine Gl.pre (fun _ k => XS.dup X18.here hx rfl (hb hby d1_91) rfl rfl k) ?_
        show Gl p.tables e below PP (T18.setTop (mkF m 92 #[.val (.int pn), .val (.long q), .second, .val (.int ((q.toInt32).toUInt32.toUInt16.toUInt32.toInt32)), .val (.int (((own_ushrL q (16 : Int32)).toInt32).toUInt32.toUInt16.toUInt32.toInt32)), .val (.int (((own_ushrL q (32 : Int32)).toInt32).toUInt32.toUInt16.toUInt32.toInt32))] [(.ref b17), (.ref b17), (.ref b16), (.ref b16)]))
        refine Gl.pre (fun _ k => XS.iconst X18.here hx rfl (hb hby d1_92) k) ?_
        show Gl p.tables e below PP (T18.setTop (mkF m 93 #[.val (.int pn), .val (.long q), .second, .val (.int ((q.toInt32).toUInt32.toUInt16.toUInt32.toInt32)), .val (.int (((own_ushrL q (16 : Int32)).toInt32).toUInt32.toUInt16.toUInt32.toInt32)), .val (.int (((own_ushrL q (32 : Int32)).toInt32).toUInt32.toUInt16.toUInt32.toInt32))] [(.int (1 : Int32)), (.ref b17), (.ref b17), (.ref b16), (.ref b16)]))
        refine Gl.pre (fun _ k => XS.iload X18.here hx rfl (hb hby d1_93) rfl k) ?_
        show Gl p.tables e below PP (T18.setTop (mkF m 95 #[.val (.int pn), .val (.long q), .second, .val (.int ((q.toInt32).toUInt32.toUInt16.toUInt32.toInt32)), .val (.int (((own_ushrL q (16 : Int32)).toInt32).toUInt32.toUInt16.toUInt32.toInt32)), .val (.int (((own_ushrL q (32 : Int32)).toInt32).toUInt32.toUInt16.toUInt32.toInt32))] [(.int (((own_ushrL q (16 : Int32)).toInt32).toUInt32.toUInt16.toUInt32.toInt32)), (.int (1 : Int32)), (.ref b17), (.ref b17), (.ref b16), (.ref b16)]))
        obtain ⟨T19, h19, X19, e19, W19, V19, st19⟩ := own_stC X18 hx hZ0 e18 V_b17 (j := (1 : Int32)) (i := 1) (by decide) (by decide) (Nat.lt_of_lt_of_eq (by decide : 1 < 3) rfl) (g := (mkF m 95 #[.val (.int pn), .val (.long q), .second, .val (.int ((q.toInt32).toUInt32.toUInt16.toUInt32.toInt32)), .val (.int (((own_ushrL q (16 : Int32)).toInt32).toUInt32.toUInt16.toUInt32.toInt32)), .val (.int (((own_ushrL q (32 : Int32)).toInt32).toUInt32.toUInt16.toUInt32.toInt32))] [(.int (((own_ushrL q (16 : Int32)).toInt32).toUInt32.toUInt16.toUInt32.toInt32)), (.int (1 : Int32)), (.ref b17), (.ref b17), (.ref b16), (.ref b16)])) rfl rfl (hb hby d1_95)
        refine Gl.pre (fun _ k => st19 _ k) ?_
        have Sf_b16 := Safe.wr W19 Sf_b17 CR18.1 Sf_b16
        have CR19 := CR18.trans (CHr.wr W19 Sf_b17 CR18.1)
        have Sf_b17 := Safe.wr W19 Sf_b17 CR18.1 Sf_b17
        have O_ := O_.wr W19 g_b17
        have E_b16 := E_b16.wr W19
        have F_value_b16 := F_value_b16.other W19 (Or.inl (own_ne_b16_b17))
        have F_coder_b16 := F_coder_b16.other W19 (Or.inl (own_ne_b16_b17))
        have Z19 : n0 ≤ h19.size := by rw [W19.size]; exact Z18
        have hk19 := Nat.le_trans hk18 (Nat.le_of_eq W19.size.symm)
        have N19 := Fr.snoc X19 N18 g_b17
        have K19 := K18.wr W19 (Or.inr sz_b17)
        have V_b17 : Bal Z h19 b17 .char [(nar .char ((q.toInt32).toUInt32.toUInt16.toUInt32.toInt32)), (nar .char (((own_ushrL q (16 : Int32)).toInt32).toUInt32.toUInt16.toUInt32.toInt32)), (0 : Int32)] := V19
        show Gl p.tables e below PP (T19.setTop (mkF m 96 #[.val (.int pn), .val (.long q), .second, .val (.int ((q.toInt32).toUInt32.toUInt16.toUInt32.toInt32)), .val (.int (((own_ushrL q (16 : Int32)).toInt32).toUInt32.toUInt16.toUInt32.toInt32)), .val (.int (((own_ushrL q (32 : Int32)).toInt32).toUInt32.toUInt16.toUInt32.toInt32))] [(.ref b17), (.ref b16), (.ref b16)]))
        refine Gl.pre (fun _ k => XS.dup X19.here hx rfl (hb hby d1_96) rfl rfl k) ?_
        show Gl p.tables e below PP (T19.setTop (mkF m 97 #[.val (.int pn), .val (.long q), .second, .val (.int ((q.toInt32).toUInt32.toUInt16.toUInt32.toInt32)), .val (.int (((own_ushrL q (16 : Int32)).toInt32).toUInt32.toUInt16.toUInt32.toInt32)), .val (.int (((own_ushrL q (32 : Int32)).toInt32).toUInt32.toUInt16.toUInt32.toInt32))] [(.ref b17), (.ref b17), (.ref b16), (.ref b16)]))
        refine Gl.pre (fun _ k => XS.iconst X19.here hx rfl (hb hby d1_97) k) ?_
        show Gl p.tables e below PP (T19.setTop (mkF m 98 #[.val (.int pn), .val (.long q), .second, .val (.int ((q.toInt32).toUInt32.toUInt16.toUInt32.toInt32)), .val (.int (((own_ushrL q (16 : Int32)).toInt32).toUInt32.toUInt16.toUInt32.toInt32)), .val (.int (((own_ushrL q (32 : Int32)).toInt32).toUInt32.toUInt16.toUInt32.toInt32))] [(.int (2 : Int32)), (.ref b17), (.ref b17), (.ref b16), (.ref b16)]))
        refine Gl.pre (fun _ k => XS.iload X19.here hx rfl (hb hby d1_98) rfl k) ?_
        show Gl p.tables e below PP (T19.setTop (mkF m 100 #[.val (.int pn), .val (.long q), .second, .val (.int ((q.toInt32).toUInt32.toUInt16.toUInt32.toInt32)), .val (.int (((own_ushrL q (16 : Int32)).toInt32).toUInt32.toUInt16.toUInt32.toInt32)), .val (.int (((own_ushrL q (32 : Int32)).toInt32).toUInt32.toUInt16.toUInt32.toInt32))] [(.int (((own_ushrL q (32 : Int32)).toInt32).toUInt32.toUInt16.toUInt32.toInt32)), (.int (2 : Int32)), (.ref b17), (.ref b17), (.ref b16), (.ref b16)]))
        obtain ⟨T20, h20, X20, e20, W20, V20, st20⟩ := own_stC X19 hx hZ0 e19 V_b17 (j := (2 : Int32)) (i := 2) (by decide) (by decide) (Nat.lt_of_lt_of_eq (by decide : 2 < 3) rfl) (g := (mkF m 100 #[.val (.int pn), .val (.long q), .second, .val (.int ((q.toInt32).toUInt32.toUInt16.toUInt32.toInt32)), .val (.int (((own_ushrL q (16 : Int32)).toInt32).toUInt32.toUInt16.toUInt32.toInt32)), .val (.int (((own_ushrL q (32 : Int32)).toInt32).toUInt32.toUInt16.toUInt32.toInt32))] [(.int (((own_ushrL q (32 : Int32)).toInt32).toUInt32.toUInt16.toUInt32.toInt32)), (.int (2 : Int32)), (.ref b17), (.ref b17), (.ref b16), (.ref b16)])) rfl rfl (hb hby d1_100)
        refine Gl.pre (fun _ k => st20 _ k) ?_
        have Sf_b16 := Safe.wr W20 Sf_b17 CR19.1 Sf_b16
        have CR20 := CR19.trans (CHr.wr W20 Sf_b17 CR19.1)
        have Sf_b17 := Safe.wr W20 Sf_b17 CR19.1 Sf_b17
        have O_ := O_.wr W20 g_b17
        have E_b16 := E_b16.wr W20
        have F_value_b16 := F_value_b16.other W20 (Or.inl (own_ne_b16_b17))
        have F_coder_b16 := F_coder_b16.other W20 (Or.inl (own_ne_b16_b17))
        have Z20 : n0 ≤ h20.size := by rw [W20.size]; exact Z19
        have hk20 := Nat.le_trans hk19 (Nat.le_of_eq W20.size.symm)
        have N20 := Fr.snoc X20 N19 g_b17
        have K20 := K19.wr W20 (Or.inr sz_b17)
        have V_b17 : Bal Z h20 b17 .char [(nar .char ((q.toInt32).toUInt32.toUInt16.toUInt32.toInt32)), (nar .char (((own_ushrL q (16 : Int32)).toInt32).toUInt32.toUInt16.toUInt32.toInt32)), (nar .char (((own_ushrL q (32 : Int32)).toInt32).toUInt32.toUInt16.toUInt32.toInt32))] := V20
        show Gl p.tables e below PP (T20.setTop (mkF m 101 #[.val (.int pn), .val (.long q), .second, .val (.int ((q.toInt32).toUInt32.toUInt16.toUInt32.toInt32)), .val (.int (((own_ushrL q (16 : Int32)).toInt32).toUInt32.toUInt16.toUInt32.toInt32)), .val (.int (((own_ushrL q (32 : Int32)).toInt32).toUInt32.toUInt16.toUInt32.toInt32))] [(.ref b17), (.ref b16), (.ref b16)]))
        obtain ⟨_, _, ⟨T21, L21, k21, n21⟩, -, X21, ⟨Lc21, hQ21, l21, y21, z21⟩, st21⟩ := X20.specialBack hx (y := (⟨"java/lang/String", "<init>", "([C)V"⟩ : MethodName)) rfl hown0 (mvT hZ0 (hw _ (List.mem_of_getElem? (i := 8) rfl))) (mvT hZ0 (hw _ (List.mem_of_getElem? (i := 9) rfl))) (mvT hZ0 (hw _ (List.mem_of_getElem? (i := 10) rfl))) (by decide) (backOf (W := 1) (rms3 l Z a0 hw [] b16 b17 cs (nar .char ((q.toInt32).toUInt32.toUInt16.toUInt32.toInt32)) (nar .char (((own_ushrL q (16 : Int32)).toInt32).toUInt32.toUInt16.toUInt32.toInt32)) (nar .char (((own_ushrL q (32 : Int32)).toInt32).toUInt32.toUInt16.toUInt32.toInt32)) h20 n0 Z20 E_b16 F_value_b16 F_coder_b16 g_b16 V_b17 own_ne_b16_b17 own_ne_b17_b16 (own_cr _) (own_cr _) (own_cr _) SBC hcs SAD SHI SLO O_) hZ0 (hw _ (List.mem_of_getElem? (i := 10) rfl)) (hw _ (List.mem_of_getElem? (i := 6) rfl)) (by decide) (by decide)) (g := (mkF m 101 #[.val (.int pn), .val (.long q), .second, .val (.int ((q.toInt32).toUInt32.toUInt16.toUInt32.toInt32)), .val (.int (((own_ushrL q (16 : Int32)).toInt32).toUInt32.toUInt16.toUInt32.toInt32)), .val (.int (((own_ushrL q (32 : Int32)).toInt32).toUInt32.toUInt16.toUInt32.toInt32))] [(.ref b17), (.ref b16), (.ref b16)])) rfl (by rw [hml]; rfl) (Steps.refl _) (a := b16) (argsL := [(.ref b17)]) (rest := [(.ref b16)]) (lenOf pd_9 rfl) rfl (by show 2 * 0 + _ ≤ _; exact Nat.le_of_eq rfl) (hb hby d1_101) (fun _ _ => ⟨rfl, e20, (by decide : 2 + 2 ≤ _), (by decide : 7 + 9 ≤ _)⟩)
        dsimp only [Pt.U, Pt.locs, Pt.cells, Pt.slots] at X21 l21 y21 z21 st21 hQ21
        subst l21 y21 z21
        obtain ⟨rfl, N21q, K21, vb21, ys21, co21, hco21, hln21, hne21, Fv21, Fc21, Vs21⟩ := hQ21
        have N21 := Fr.app N20 N21q
        refine Gl.pre (fun _ k => st21.trans k) ?_
        have hs21 : ∀ x ∈ [b16], Safe Z own_EL _ _ x := (allS Sf_b16 all0)
        have Sf_b16 := Safe.keep K21 hs21 CR20.1 Sf_b16
        have Sf_b17 := Safe.keep K21 hs21 CR20.1 Sf_b17
        have CR21 := CR20.trans (CHr.keep K21 hs21 CR20.1)
        have O_ := O_.keep K21 (allS g_b16 all0)
        have E_b16 := E_b16.keep K21
        have V_b17 := V_b17.keep K21 (ninS (own_ne_b17_b16) nin0)
        have hk21 := Nat.le_trans hk20 K21.1
        have Z21 : n0 ≤ T21.heap.size := Nat.le_trans Z20 K21.1
        have K21k := K20.trans K21 (allS (Or.inr sz_b16) all0)
        have F_value_b16 := Fv21
        have F_coder_b16 := Fc21
        have V_vb21 := Vs21
        have own_ne_vb21_b16 := hne21
        have own_ne_b16_vb21 := hne21.symm
        show Gl p.tables e below PP (T21.setTop (mkF m 104 #[.val (.int pn), .val (.long q), .second, .val (.int ((q.toInt32).toUInt32.toUInt16.toUInt32.toInt32)), .val (.int (((own_ushrL q (16 : Int32)).toInt32).toUInt32.toUInt16.toUInt32.toInt32)), .val (.int (((own_ushrL q (32 : Int32)).toInt32).toUInt32.toUInt16.toUInt32.toInt32))] [(.ref b16)]))
        rw [hPP]
        refine own_finAW (Q := (Q1 Z pn q cs h0 n0)) (Z := Z) (EL := own_EL) X21 hx hlk hS0 hk21 Bd.returns rfl rfl (hb hby d1_104) ?_ (by rw [hh]; exact CR21.trans (CHv.at X21 hZ0 hEL CR21.1)) (by decide) (by decide)
        show Q1 Z pn q cs h0 n0 _ T21.heap _
        refine ⟨b16, rfl, N21, sz_b16, K21k, E_b16, vb21, ys21, co21, hco21, ?_, hne21, F_value_b16, F_coder_b16, V_vb21⟩
        rw [hln21]; exact (own_last3 _ hp hc1 hc5 hc10).symm
theorem d5_0 : decode prog_77_method_1_code 0 = .ok (.aload_n 0, 1) := by decide +kernel
theorem d5_1 : decode prog_77_method_1_code 1 = .ok (.invokespecial 1, 3) := by decide +kernel
theorem d5_4 : decode prog_77_method_1_code 4 = .ok (.aload_n 0, 1) := by decide +kernel
theorem d5_5 : decode prog_77_method_1_code 5 = .ok (.aload_n 1, 1) := by decide +kernel
theorem d5_6 : decode prog_77_method_1_code 6 = .ok (.putfield 7, 3) := by decide +kernel
theorem d5_9 : decode prog_77_method_1_code 9 = .ok (.aload_n 0, 1) := by decide +kernel
theorem d5_10 : decode prog_77_method_1_code 10 = .ok (.aload_n 1, 1) := by decide +kernel
theorem d5_11 : decode prog_77_method_1_code 11 = .ok (.invokevirtual 13, 3) := by decide +kernel
theorem d5_14 : decode prog_77_method_1_code 14 = .ok (.putfield 19, 3) := by decide +kernel
theorem d5_17 : decode prog_77_method_1_code 17 = .ok (.aload_n 0, 1) := by decide +kernel
theorem d5_18 : decode prog_77_method_1_code 18 = .ok (.lload_n 2, 1) := by decide +kernel
theorem d5_19 : decode prog_77_method_1_code 19 = .ok (.putfield 22, 3) := by decide +kernel
theorem d5_22 : decode prog_77_method_1_code 22 = .ok (.return_, 1) := by decide +kernel
theorem pn_5 : plainName "com/example/rules_for_records/rulesforrecords/regex/Input" = true := by first | (simp [plainName, overriddenIn]; done) | decide +kernel
theorem ef_5 (m : MethodId) (a1 : Addr) (a2 : Addr) (q : Int64) (pn : Int32) (cs : Int32) (co : Int32) (vb : Addr) (ys : List Int32) : entryFrame m #[(.ref a1), (.ref a2), (.long q)] 4 = mkF m 0 #[.val (.ref a1), .val (.ref a2), .val (.long q), .second] [] := by first | (simp [entryFrame, mkF, argsToLocals, Value.category]; done) | rfl
def Q5 (Z : State) (a1 : Addr) (a2 : Addr) (q : Int64) (pn : Int32) (cs : Int32) (co : Int32) (vb : Addr) (ys : List Int32) (h0 : Heap) (n0 : Nat) (v : Option Value) (h : Heap) (L : List Loc) : Prop := v = none ∧ Fr n0 L ∧ Keep h0 h [a1] ∧ Fld Z h a1 "com/example/rules_for_records/rulesforrecords/regex/Input" "length" "I" (.int pn)
set_option maxRecDepth 65536 in
set_option maxHeartbeats 40000000 in
theorem rm5 (l : Launch) (Z : State) (a0 : Array Value) (hw : ∀ d ∈ tables_1, d.before a0 Z = true) (ws : List Jvm.Cond) (a1 : Addr) (a2 : Addr) (q : Int64) (pn : Int32) (cs : Int32) (co : Int32) (vb : Addr) (ys : List Int32) (h0 : Heap) (n0 : Nat) (Z0 : n0 ≤ h0.size) (E_a1 : Exa Z h0 a1 "com/example/rules_for_records/rulesforrecords/regex/Input") (F_text_a1 : Fld Z h0 a1 "com/example/rules_for_records/rulesforrecords/regex/Input" "text" "Ljava/lang/String;" .null) (F_length_a1 : Fld Z h0 a1 "com/example/rules_for_records/rulesforrecords/regex/Input" "length" "I" (.int (0 : Int32))) (F_stepsLeft_a1 : Fld Z h0 a1 "com/example/rules_for_records/rulesforrecords/regex/Input" "stepsLeft" "J" (.long (0 : Int64))) (g_a1 : n0 ≤ a1) (E_a2 : Exa Z h0 a2 "java/lang/String") (F_value_a2 : Fld Z h0 a2 "java/lang/String" "value" "[B" (.ref vb)) (F_coder_a2 : Fld Z h0 a2 "java/lang/String" "coder" "B" (.int co)) (V_vb : Bal Z h0 vb .byte ys) (hco : co = 0 ∨ co = 1) (hX : (ys.length.toInt32 >>> (co &&& 31)) = pn) (own_ne_a1_a2 : a1 ≠ a2) (own_ne_a2_a1 : a2 ≠ a1) (own_ne_a1_vb : a1 ≠ vb) (own_ne_vb_a1 : vb ≠ a1) (SBC : Sta Z Z.heap "java/lang/String" "COMPACT_STRINGS" "Z" (.int cs)) (hcs : ¬ (cs = (0 : Int32))) (O_ : Old Z n0 h0) :
    MetFree l (⟨"com/example/rules_for_records/rulesforrecords/regex/Input", "<init>", "(Ljava/lang/String;J)V"⟩ : MethodName) (head1 (Jvm.Cond.code (⟨"com/example/rules_for_records/rulesforrecords/regex/Input", "<init>", "(Ljava/lang/String;J)V"⟩ : MethodName) prog_77_method_1_code 4 none :: ws) ({ frames := 2, cells := 0, slots := 0, locals := 26 } : Room)) (fun a U => a = #[(.ref a1), (.ref a2), (.long q)] ∧ Z.Warmed39 U.vm ∧ U.heap = h0) (fun _ _ _ _ _ => True) (fun _ U o U' => ∃ v L, o = .returned v ∧ Q5 Z a1 a2 q pn cs co vb ys h0 n0 v U'.heap L ∧ FrameEnd U o U' L ({ frames := 2, cells := 0, slots := 0, locals := 26 } : Room).cells ({ frames := 2, cells := 0, slots := 0, locals := 26 } : Room).slots) := by
  refine MetFree.of_bodySF (plainFor_of_name pn_5) hisR ?_
  intro p e s m args below meth c s₁ Bd hml0 hP hK
  obtain ⟨rfl, hZ, hh⟩ := hP
  have hx := Bd.exec
  have hby := Bd.bytes
  have hlk : meth.locks = false := BodyLoose.notSynchronized Bd
  have hml : c.maxLocals = 4 := hml0
  have hown : s.vm.findClass "com/example/rules_for_records/rulesforrecords/regex/Input" = some m.cls := findClass_of_methodNamed Bd.named
  have hnm := (name_of_methodNamed Bd.named Bd.method).1
  have X0 : Stand p l e ({ frames := 2, cells := 0, slots := 0, locals := 26 } : Room) s m #[(.ref a1), (.ref a2), (.long q)] below meth c s₁ [] 0 0 := Stand.of_body Bd
  have e0 : s₁.heap = h0 := by rw [← hh, Bd.state]; rfl
  have N0 := Fr.nil n0
  show Gl p.tables e below (fun (o : Outcome) (U' : State) => ∃ v L, o = .returned v ∧ Q5 Z a1 a2 q pn cs co vb ys h0 n0 v U'.heap L ∧ FrameEnd s o U' L ({ frames := 2, cells := 0, slots := 0, locals := 26 } : Room).cells ({ frames := 2, cells := 0, slots := 0, locals := 26 } : Room).slots) _
  refine Gl.pre (fun t k => castTop (ef_5 m a1 a2 q pn cs co vb ys) k) ?_
  obtain ⟨PP, hPP⟩ : ∃ P : Outcome → State → Prop, P = (fun (o : Outcome) (U' : State) => ∃ v L, o = .returned v ∧ Q5 Z a1 a2 q pn cs co vb ys h0 n0 v U'.heap L ∧ FrameEnd s o U' L ({ frames := 2, cells := 0, slots := 0, locals := 26 } : Room).cells ({ frames := 2, cells := 0, slots := 0, locals := 26 } : Room).slots) := ⟨_, rfl⟩
  rw [← hPP]
  have K0 : Keep h0 h0 [a1] := Keep.refl h0 _
  show Gl p.tables e below PP (s₁.setTop (mkF m 0 #[.val (.ref a1), .val (.ref a2), .val (.long q), .second] []))
  refine Gl.pre (fun _ k => XS.aloadN X0.here hx rfl (hb hby d5_0) rfl rfl k) ?_
  show Gl p.tables e below PP (s₁.setTop (mkF m 1 #[.val (.ref a1), .val (.ref a2), .val (.long q), .second] [(.ref a1)]))
  obtain ⟨T1, X1, e1, st1⟩ := initO X0 hx hZ hown (hw _ (List.mem_of_getElem? (i := 32) rfl)) (hw _ (List.mem_of_getElem? (i := 16) rfl)) (hw _ (List.mem_of_getElem? (i := 17) rfl)) e0 (g := (mkF m 1 #[.val (.ref a1), .val (.ref a2), .val (.long q), .second] [(.ref a1)])) rfl (by rw [hml]; rfl) rfl (hb hby d5_1) (by decide) (W := 0) (by show 2 * 0 + _ ≤ _; exact Nat.le_of_eq rfl) (by decide)
  refine Gl.pre (fun _ k => st1 _ k) ?_
  show Gl p.tables e below PP (T1.setTop (mkF m 4 #[.val (.ref a1), .val (.ref a2), .val (.long q), .second] []))
  refine Gl.pre (fun _ k => XS.aloadN X1.here hx rfl (hb hby d5_4) rfl rfl k) ?_
  show Gl p.tables e below PP (T1.setTop (mkF m 5 #[.val (.ref a1), .val (.ref a2), .val (.long q), .second] [(.ref a1)]))
  refine Gl.pre (fun _ k => XS.aloadN X1.here hx rfl (hb hby d5_5) rfl rfl k) ?_
  show Gl p.tables e below PP (T1.setTop (mkF m 6 #[.val (.ref a1), .val (.ref a2), .val (.long q), .second] [(.ref a2), (.ref a1)]))
  obtain ⟨T2, h2, X2, e2, W2, st2⟩ := putF X1 hx hZ hown (host := "") (Or.inl (hw _ (List.mem_of_getElem? (i := 33) rfl))) Via.refl e1 F_text_a1 E_a1 (Or.inr ⟨(hw _ (List.mem_of_getElem? (i := 34) rfl)), rfl, hnm⟩) (hw _ (List.mem_of_getElem? (i := 27) rfl)) (ty := (.object "java/lang/String")) (by decide) rfl rfl (g := (mkF m 6 #[.val (.ref a1), .val (.ref a2), .val (.long q), .second] [(.ref a2), (.ref a1)])) rfl rfl (hb hby d5_6)
  refine Gl.pre (fun _ k => st2 _ k) ?_
  have E_a1 := E_a1.wr W2
  have F_text_a1 := F_text_a1.same W2
  have F_length_a1 := F_length_a1.other W2 (Or.inr (slot_ne (Or.inr (hw _ (List.mem_of_getElem? (i := 47) rfl))) (Or.inr (hw _ (List.mem_of_getElem? (i := 34) rfl))) (by decide) (t := .int) (t' := (.object "java/lang/String")) (by decide) (by decide)))
  have F_stepsLeft_a1 := F_stepsLeft_a1.other W2 (Or.inr (slot_ne (Or.inl (hw _ (List.mem_of_getElem? (i := 49) rfl))) (Or.inr (hw _ (List.mem_of_getElem? (i := 34) rfl))) (by decide) (t := .long) (t' := (.object "java/lang/String")) (by decide) (by decide)))
  have E_a2 := E_a2.wr W2
  have F_value_a2 := F_value_a2.other W2 (Or.inl (own_ne_a2_a1))
  have F_coder_a2 := F_coder_a2.other W2 (Or.inl (own_ne_a2_a1))
  have V_vb := V_vb.other W2 (own_ne_vb_a1)
  have O_ := O_.wr W2 g_a1
  have Z2 : n0 ≤ h2.size := by rw [W2.size]; exact Z0
  have N2 := Fr.snoc X2 N0 g_a1
  have K2 := K0.wr W2 (Or.inl (List.mem_of_getElem? (i := 0) rfl))
  show Gl p.tables e below PP (T2.setTop (mkF m 9 #[.val (.ref a1), .val (.ref a2), .val (.long q), .second] []))
  refine Gl.pre (fun _ k => XS.aloadN X2.here hx rfl (hb hby d5_9) rfl rfl k) ?_
  show Gl p.tables e below PP (T2.setTop (mkF m 10 #[.val (.ref a1), .val (.ref a2), .val (.long q), .second] [(.ref a1)]))
  refine Gl.pre (fun _ k => XS.aloadN X2.here hx rfl (hb hby d5_10) rfl rfl k) ?_
  show Gl p.tables e below PP (T2.setTop (mkF m 11 #[.val (.ref a1), .val (.ref a2), .val (.long q), .second] [(.ref a2), (.ref a1)]))
  obtain ⟨cq3, kq3, qa3, qb3, qc3⟩ := isOf hZ e2 E_a2
  obtain ⟨_, _, ⟨T3, L3, k3, n3⟩, -, X3, ⟨Lc3, hQ3, l3, y3, z3⟩, st3⟩ := X2.virtualBack hx (y := (⟨"java/lang/String", "length", "()I"⟩ : MethodName)) (z := (⟨"java/lang/String", "length", "()I"⟩ : MethodName)) hown (mvT hZ (hw _ (List.mem_of_getElem? (i := 35) rfl))) (mvT hZ (hw _ (List.mem_of_getElem? (i := 36) rfl))) (notFace_of_selects (args := #[]) (mvT hZ (hw _ (List.mem_of_getElem? (i := 38) rfl)))) (mvT hZ (hw _ (List.mem_of_getElem? (i := 38) rfl))) (mvT hZ (hw _ (List.mem_of_getElem? (i := 37) rfl))) (by decide) (backOf (W := 1) (rm6 l Z a0 hw [] a2 cs co vb ys h2 n0 Z2 E_a2 F_value_a2 F_coder_a2 V_vb hco SBC hcs O_) hZ (hw _ (List.mem_of_getElem? (i := 39) rfl)) (hw _ (List.mem_of_getElem? (i := 6) rfl)) (by decide) (by decide)) qa3 qc3 (g := (mkF m 11 #[.val (.ref a1), .val (.ref a2), .val (.long q), .second] [(.ref a2), (.ref a1)])) rfl (by rw [hml]; rfl) (Steps.refl _) (argsL := []) (rest := [(.ref a1)]) (lenOf pd_10 rfl) rfl (by show 2 * 0 + _ ≤ _; exact Nat.le_of_eq rfl) (hb hby d5_11) (fun _ _ => ⟨rfl, e2, (by decide : 0 + 0 ≤ _), (by decide : 0 + 0 ≤ _)⟩)
  dsimp only [Pt.U, Pt.locs, Pt.cells, Pt.slots] at X3 l3 y3 z3 st3 hQ3
  subst l3 y3 z3
  obtain ⟨rfl, N3q, e3⟩ := hQ3
  have N3 := Fr.app N2 N3q
  refine Gl.pre (fun _ k => st3.trans k) ?_
  show Gl p.tables e below PP (T3.setTop (mkF m 14 #[.val (.ref a1), .val (.ref a2), .val (.long q), .second] [(.int (ys.length.toInt32 >>> (co &&& 31))), (.ref a1)]))
  rw [hX]
  show Gl p.tables e below PP (T3.setTop (mkF m 14 #[.val (.ref a1), .val (.ref a2), .val (.long q), .second] [(.int pn), (.ref a1)]))
  obtain ⟨T4, h4, X4, e4, W4, st4⟩ := putF X3 hx hZ hown (host := "") (Or.inl (hw _ (List.mem_of_getElem? (i := 46) rfl))) Via.refl e3 F_length_a1 E_a1 (Or.inr ⟨(hw _ (List.mem_of_getElem? (i := 47) rfl)), rfl, hnm⟩) (hw _ (List.mem_of_getElem? (i := 27) rfl)) (ty := .int) (by decide) rfl rfl (g := (mkF m 14 #[.val (.ref a1), .val (.ref a2), .val (.long q), .second] [(.int pn), (.ref a1)])) rfl rfl (hb hby d5_14)
  refine Gl.pre (fun _ k => st4 _ k) ?_
  have E_a1 := E_a1.wr W4
  have F_text_a1 := F_text_a1.other W4 (Or.inr (slot_ne (Or.inr (hw _ (List.mem_of_getElem? (i := 34) rfl))) (Or.inr (hw _ (List.mem_of_getElem? (i := 47) rfl))) (by decide) (t := (.object "java/lang/String")) (t' := .int) (by decide) (by decide)))
  have F_length_a1 := F_length_a1.same W4
  have F_stepsLeft_a1 := F_stepsLeft_a1.other W4 (Or.inr (slot_ne (Or.inl (hw _ (List.mem_of_getElem? (i := 49) rfl))) (Or.inr (hw _ (List.mem_of_getElem? (i := 47) rfl))) (by decide) (t := .long) (t' := .int) (by decide) (by decide)))
  have E_a2 := E_a2.wr W4
  have F_value_a2 := F_value_a2.other W4 (Or.inl (own_ne_a2_a1))
  have F_coder_a2 := F_coder_a2.other W4 (Or.inl (own_ne_a2_a1))
  have V_vb := V_vb.other W4 (own_ne_vb_a1)
  have O_ := O_.wr W4 g_a1
  have Z4 : n0 ≤ h4.size := by rw [W4.size]; exact Z2
  have N4 := Fr.snoc X4 N3 g_a1
  have K4 := K2.wr W4 (Or.inl (List.mem_of_getElem? (i := 0) rfl))
  show Gl p.tables e below PP (T4.setTop (mkF m 17 #[.val (.ref a1), .val (.ref a2), .val (.long q), .second] []))
  refine Gl.pre (fun _ k => XS.aloadN X4.here hx rfl (hb hby d5_17) rfl rfl k) ?_
  show Gl p.tables e below PP (T4.setTop (mkF m 18 #[.val (.ref a1), .val (.ref a2), .val (.long q), .second] [(.ref a1)]))
  refine Gl.pre (fun _ k => XS.lloadN X4.here hx rfl (hb hby d5_18) rfl k) ?_
  show Gl p.tables e below PP (T4.setTop (mkF m 19 #[.val (.ref a1), .val (.ref a2), .val (.long q), .second] [(.long q), (.ref a1)]))
  obtain ⟨T5, h5, X5, e5, W5, st5⟩ := putF X4 hx hZ hown (host := "") (Or.inl (hw _ (List.mem_of_getElem? (i := 48) rfl))) Via.refl e4 F_stepsLeft_a1 E_a1 (Or.inl (hw _ (List.mem_of_getElem? (i := 49) rfl))) (hw _ (List.mem_of_getElem? (i := 27) rfl)) (ty := .long) (by decide) rfl rfl (g := (mkF m 19 #[.val (.ref a1), .val (.ref a2), .val (.long q), .second] [(.long q), (.ref a1)])) rfl rfl (hb hby d5_19)
  refine Gl.pre (fun _ k => st5 _ k) ?_
  have E_a1 := E_a1.wr W5
  have F_text_a1 := F_text_a1.other W5 (Or.inr (slot_ne (Or.inr (hw _ (List.mem_of_getElem? (i := 34) rfl))) (Or.inl (hw _ (List.mem_of_getElem? (i := 49) rfl))) (by decide) (t := (.object "java/lang/String")) (t' := .long) (by decide) (by decide)))
  have F_length_a1 := F_length_a1.other W5 (Or.inr (slot_ne (Or.inr (hw _ (List.mem_of_getElem? (i := 47) rfl))) (Or.inl (hw _ (List.mem_of_getElem? (i := 49) rfl))) (by decide) (t := .int) (t' := .long) (by decide) (by decide)))
  have F_stepsLeft_a1 := F_stepsLeft_a1.same W5
  have E_a2 := E_a2.wr W5
  have F_value_a2 := F_value_a2.other W5 (Or.inl (own_ne_a2_a1))
  have F_coder_a2 := F_coder_a2.other W5 (Or.inl (own_ne_a2_a1))
  have V_vb := V_vb.other W5 (own_ne_vb_a1)
  have O_ := O_.wr W5 g_a1
  have Z5 : n0 ≤ h5.size := by rw [W5.size]; exact Z4
  have N5 := Fr.snoc X5 N4 g_a1
  have K5 := K4.wr W5 (Or.inl (List.mem_of_getElem? (i := 0) rfl))
  show Gl p.tables e below PP (T5.setTop (mkF m 22 #[.val (.ref a1), .val (.ref a2), .val (.long q), .second] []))
  rw [hPP]
  refine own_finV (Q := (Q5 Z a1 a2 q pn cs co vb ys h0 n0)) X5 hx hlk Bd.returns (hb hby d5_22) ?_ (by decide) (by decide)
  show Q5 Z a1 a2 q pn cs co vb ys h0 n0 _ T5.heap _
  rw [e5]
  exact ⟨rfl, N5, K5, F_length_a1⟩
theorem d8_0 : decode prog_77_method_4_code 0 = .ok (.iload_n 2, 1) := by decide +kernel
theorem d8_1 : decode prog_77_method_4_code 1 = .ok (.ifCond .eq 15, 3) := by decide +kernel
theorem d8_4 : decode prog_77_method_4_code 4 = .ok (.iload_n 1, 1) := by decide +kernel
theorem d8_5 : decode prog_77_method_4_code 5 = .ok (.ifCond .ne 7, 3) := by decide +kernel
theorem d8_8 : decode prog_77_method_4_code 8 = .ok (.iconst 1, 1) := by decide +kernel
theorem d8_9 : decode prog_77_method_4_code 9 = .ok (.goto 20, 3) := by decide +kernel
theorem d8_12 : decode prog_77_method_4_code 12 = .ok (.iconst 0, 1) := by decide +kernel
theorem d8_13 : decode prog_77_method_4_code 13 = .ok (.goto 16, 3) := by decide +kernel
theorem d8_16 : decode prog_77_method_4_code 16 = .ok (.iload_n 1, 1) := by decide +kernel
theorem d8_17 : decode prog_77_method_4_code 17 = .ok (.aload_n 0, 1) := by decide +kernel
theorem d8_18 : decode prog_77_method_4_code 18 = .ok (.getfield 19, 3) := by decide +kernel
theorem d8_21 : decode prog_77_method_4_code 21 = .ok (.if_icmp .ne 7, 3) := by decide +kernel
theorem d8_24 : decode prog_77_method_4_code 24 = .ok (.iconst 1, 1) := by decide +kernel
theorem d8_25 : decode prog_77_method_4_code 25 = .ok (.goto 4, 3) := by decide +kernel
theorem d8_28 : decode prog_77_method_4_code 28 = .ok (.iconst 0, 1) := by decide +kernel
theorem d8_29 : decode prog_77_method_4_code 29 = .ok (.ireturn, 1) := by decide +kernel
theorem pn_8 : plainName "com/example/rules_for_records/rulesforrecords/regex/Input" = true := by first | (simp [plainName, overriddenIn]; done) | decide +kernel
theorem ef_8 (m : MethodId) (a1 : Addr) (pos : Int32) (pb : Int32) (pn : Int32) : entryFrame m #[(.ref a1), (.int pos), (.int pb)] 3 = mkF m 0 #[.val (.ref a1), .val (.int pos), .val (.int pb)] [] := by first | (simp [entryFrame, mkF, argsToLocals, Value.category]; done) | rfl
def Q8 (Z : State) (a1 : Addr) (pos : Int32) (pb : Int32) (pn : Int32) (h0 : Heap) (n0 : Nat) (v : Option Value) (h : Heap) (L : List Loc) : Prop := v = some (.int (own_pi ((¬ (pb = (0 : Int32)) ∧ pos = (0 : Int32)) ∨ (pb = (0 : Int32) ∧ pos = pn)))) ∧ Fr n0 L ∧ h = h0
set_option maxRecDepth 65536 in
set_option maxHeartbeats 40000000 in
theorem rm8 (l : Launch) (Z : State) (a0 : Array Value) (hw : ∀ d ∈ tables_1, d.before a0 Z = true) (ws : List Jvm.Cond) (a1 : Addr) (pos : Int32) (pb : Int32) (pn : Int32) (h0 : Heap) (n0 : Nat) (Z0 : n0 ≤ h0.size) (F_length_a1 : Fld Z h0 a1 "com/example/rules_for_records/rulesforrecords/regex/Input" "length" "I" (.int pn)) :
    MetFree l (⟨"com/example/rules_for_records/rulesforrecords/regex/Input", "atEnd", "(IZ)Z"⟩ : MethodName) (head1 (Jvm.Cond.code (⟨"com/example/rules_for_records/rulesforrecords/regex/Input", "atEnd", "(IZ)Z"⟩ : MethodName) prog_77_method_4_code 3 (some .boolean) :: ws) ({ frames := 0, cells := 0, slots := 0, locals := 0 } : Room)) (fun a U => a = #[(.ref a1), (.int pos), (.int pb)] ∧ Z.Warmed39 U.vm ∧ U.heap = h0) (fun _ _ _ _ _ => True) (fun _ U o U' => ∃ v L, o = .returned v ∧ Q8 Z a1 pos pb pn h0 n0 v U'.heap L ∧ FrameEnd U o U' L ({ frames := 0, cells := 0, slots := 0, locals := 0 } : Room).cells ({ frames := 0, cells := 0, slots := 0, locals := 0 } : Room).slots) := by
  refine MetFree.of_bodySF (plainFor_of_name pn_8) hisR ?_
  intro p e s m args below meth c s₁ Bd hml0 hP hK
  obtain ⟨rfl, hZ, hh⟩ := hP
  have hx := Bd.exec
  have hby := Bd.bytes
  have hlk : meth.locks = false := BodyLoose.notSynchronized Bd
  have hml : c.maxLocals = 3 := hml0
  have hown : s.vm.findClass "com/example/rules_for_records/rulesforrecords/regex/Input" = some m.cls := findClass_of_methodNamed Bd.named
  have hnm := (name_of_methodNamed Bd.named Bd.method).1
  have X0 : Stand p l e ({ frames := 0, cells := 0, slots := 0, locals := 0 } : Room) s m #[(.ref a1), (.int pos), (.int pb)] below meth c s₁ [] 0 0 := Stand.of_body Bd
  have e0 : s₁.heap = h0 := by rw [← hh, Bd.state]; rfl
  have N0 := Fr.nil n0
  show Gl p.tables e below (fun (o : Outcome) (U' : State) => ∃ v L, o = .returned v ∧ Q8 Z a1 pos pb pn h0 n0 v U'.heap L ∧ FrameEnd s o U' L ({ frames := 0, cells := 0, slots := 0, locals := 0 } : Room).cells ({ frames := 0, cells := 0, slots := 0, locals := 0 } : Room).slots) _
  refine Gl.pre (fun t k => castTop (ef_8 m a1 pos pb pn) k) ?_
  obtain ⟨PP, hPP⟩ : ∃ P : Outcome → State → Prop, P = (fun (o : Outcome) (U' : State) => ∃ v L, o = .returned v ∧ Q8 Z a1 pos pb pn h0 n0 v U'.heap L ∧ FrameEnd s o U' L ({ frames := 0, cells := 0, slots := 0, locals := 0 } : Room).cells ({ frames := 0, cells := 0, slots := 0, locals := 0 } : Room).slots) := ⟨_, rfl⟩
  rw [← hPP]
  show Gl p.tables e below PP (s₁.setTop (mkF m 0 #[.val (.ref a1), .val (.int pos), .val (.int pb)] []))
  refine Gl.pre (fun _ k => XS.iloadN X0.here hx rfl (hb hby d8_0) rfl k) ?_
  show Gl p.tables e below PP (s₁.setTop (mkF m 1 #[.val (.ref a1), .val (.int pos), .val (.int pb)] [(.int pb)]))
  by_cases hc1 : pb = (0 : Int32)
  · refine Gl.pre (fun _ k => XS.ifYes X0.here hx rfl (pc0 := 1) (pc' := 16) rfl (hb hby d8_1) rfl ((if0 _ _).trans (teq hc1).1) (by decide) (by decide) k) ?_
    show Gl p.tables e below PP (s₁.setTop (mkF m 16 #[.val (.ref a1), .val (.int pos), .val (.int pb)] []))
    refine Gl.pre (fun _ k => XS.iloadN X0.here hx rfl (hb hby d8_16) rfl k) ?_
    show Gl p.tables e below PP (s₁.setTop (mkF m 17 #[.val (.ref a1), .val (.int pos), .val (.int pb)] [(.int pos)]))
    refine Gl.pre (fun _ k => XS.aloadN X0.here hx rfl (hb hby d8_17) rfl rfl k) ?_
    show Gl p.tables e below PP (s₁.setTop (mkF m 18 #[.val (.ref a1), .val (.int pos), .val (.int pb)] [(.ref a1), (.int pos)]))
    obtain ⟨T2, X2, e2, st2⟩ := getF X0 hx hZ hown (host := "") (Or.inl (hw _ (List.mem_of_getElem? (i := 46) rfl))) Via.refl e0 F_length_a1 (g := (mkF m 18 #[.val (.ref a1), .val (.int pos), .val (.int pb)] [(.ref a1), (.int pos)])) rfl rfl (hb hby d8_18)
    refine Gl.pre (fun _ k => st2 _ k) ?_
    show Gl p.tables e below PP (T2.setTop (mkF m 21 #[.val (.ref a1), .val (.int pos), .val (.int pb)] [(.int pn), (.int pos)]))
    suffices J3 : Gl p.tables e below PP (T2.setTop (mkF m 29 #[.val (.ref a1), .val (.int pos), .val (.int pb)] [(.int (own_pi (pos = pn)))])) by
      by_cases hd3 : pos = pn
      · rw [own_pi_t hd3] at J3
        refine Gl.pre (fun _ k => XS.icmpNo X2.here hx rfl (hb hby d8_21) rfl (teq hd3).2 k) ?_
        show Gl p.tables e below PP (T2.setTop (mkF m 24 #[.val (.ref a1), .val (.int pos), .val (.int pb)] []))
        refine Gl.pre (fun _ k => XS.iconst X2.here hx rfl (hb hby d8_24) k) ?_
        show Gl p.tables e below PP (T2.setTop (mkF m 25 #[.val (.ref a1), .val (.int pos), .val (.int pb)] [(.int (1 : Int32))]))
        refine Gl.pre (fun _ k => XS.goto X2.here hx rfl (pc0 := 25) (pc' := 29) rfl (hb hby d8_25) (by decide) (by decide) k) ?_
        show Gl p.tables e below PP (T2.setTop (mkF m 29 #[.val (.ref a1), .val (.int pos), .val (.int pb)] [(.int (1 : Int32))]))
        exact J3
      · rw [own_pi_f hd3] at J3
        refine Gl.pre (fun _ k => XS.icmpYes X2.here hx rfl (pc0 := 21) (pc' := 28) rfl (hb hby d8_21) rfl (feq hd3).2 (by decide) (by decide) k) ?_
        show Gl p.tables e below PP (T2.setTop (mkF m 28 #[.val (.ref a1), .val (.int pos), .val (.int pb)] []))
        refine Gl.pre (fun _ k => XS.iconst X2.here hx rfl (hb hby d8_28) k) ?_
        show Gl p.tables e below PP (T2.setTop (mkF m 29 #[.val (.ref a1), .val (.int pos), .val (.int pb)] [(.int (0 : Int32))]))
        exact J3
    show Gl p.tables e below PP (T2.setTop (mkF m 29 #[.val (.ref a1), .val (.int pos), .val (.int pb)] [(.int (own_pi (pos = pn)))]))
    rw [hPP]
    refine own_finN (Q := (Q8 Z a1 pos pb pn h0 n0)) X2 hx hlk Bd.returns (t := .boolean) (z' := (own_pi (pos = pn))) (by simp) own_nar_pi (hb hby d8_29) ?_ (by decide) (by decide)
    show Q8 Z a1 pos pb pn h0 n0 _ T2.heap _
    rw [e2]
    refine ⟨?_, N0, rfl⟩
    exact congrArg (fun z => some (Value.int z)) (own_pi_eq (by simp [hc1]))
  · refine Gl.pre (fun _ k => XS.ifNo X0.here hx rfl (hb hby d8_1) rfl ((if0 _ _).trans (feq hc1).1) k) ?_
    show Gl p.tables e below PP (s₁.setTop (mkF m 4 #[.val (.ref a1), .val (.int pos), .val (.int pb)] []))
    refine Gl.pre (fun _ k => XS.iloadN X0.here hx rfl (hb hby d8_4) rfl k) ?_
    show Gl p.tables e below PP (s₁.setTop (mkF m 5 #[.val (.ref a1), .val (.int pos), .val (.int pb)] [(.int pos)]))
    by_cases hc4 : pos = (0 : Int32)
    · refine Gl.pre (fun _ k => XS.ifNo X0.here hx rfl (hb hby d8_5) rfl ((if0 _ _).trans (teq hc4).2) k) ?_
      show Gl p.tables e below PP (s₁.setTop (mkF m 8 #[.val (.ref a1), .val (.int pos), .val (.int pb)] []))
      refine Gl.pre (fun _ k => XS.iconst X0.here hx rfl (hb hby d8_8) k) ?_
      show Gl p.tables e below PP (s₁.setTop (mkF m 9 #[.val (.ref a1), .val (.int pos), .val (.int pb)] [(.int (1 : Int32))]))
      refine Gl.pre (fun _ k => XS.goto X0.here hx rfl (pc0 := 9) (pc' := 29) rfl (hb hby d8_9) (by decide) (by decide) k) ?_
      show Gl p.tables e below PP (s₁.setTop (mkF m 29 #[.val (.ref a1), .val (.int pos), .val (.int pb)] [(.int (1 : Int32))]))
      rw [hPP]
      refine own_finN (Q := (Q8 Z a1 pos pb pn h0 n0)) X0 hx hlk Bd.returns (t := .boolean) (z' := (1 : Int32)) (by simp) (by decide) (hb hby d8_29) ?_ (by decide) (by decide)
      show Q8 Z a1 pos pb pn h0 n0 _ s₁.heap _
      rw [e0]
      refine ⟨?_, N0, rfl⟩
      rw [own_pi_t (by simp [hc1, hc4])]
    · refine Gl.pre (fun _ k => XS.ifYes X0.here hx rfl (pc0 := 5) (pc' := 12) rfl (hb hby d8_5) rfl ((if0 _ _).trans (feq hc4).2) (by decide) (by decide) k) ?_
      show Gl p.tables e below PP (s₁.setTop (mkF m 12 #[.val (.ref a1), .val (.int pos), .val (.int pb)] []))
      refine Gl.pre (fun _ k => XS.iconst X0.here hx rfl (hb hby d8_12) k) ?_
      show Gl p.tables e below PP (s₁.setTop (mkF m 13 #[.val (.ref a1), .val (.int pos), .val (.int pb)] [(.int (0 : Int32))]))
      refine Gl.pre (fun _ k => XS.goto X0.here hx rfl (pc0 := 13) (pc' := 29) rfl (hb hby d8_13) (by decide) (by decide) k) ?_
      show Gl p.tables e below PP (s₁.setTop (mkF m 29 #[.val (.ref a1), .val (.int pos), .val (.int pb)] [(.int (0 : Int32))]))
      rw [hPP]
      refine own_finN (Q := (Q8 Z a1 pos pb pn h0 n0)) X0 hx hlk Bd.returns (t := .boolean) (z' := (0 : Int32)) (by simp) (by decide) (hb hby d8_29) ?_ (by decide) (by decide)
      show Q8 Z a1 pos pb pn h0 n0 _ s₁.heap _
      rw [e0]
      refine ⟨?_, N0, rfl⟩
      rw [own_pi_f (by simp [hc1, hc4])]
theorem pn_0 : plainName "com/example/rules_for_records/rulesforrecords/regex/InputAtEndPinLaw" = true := by first | (simp [plainName, overriddenIn]; done) | decide +kernel
theorem ef_0 (m : MethodId) (p1 : Int32) (p2 : Int32) (q1 : Int64) (q2 : Int64) (cs : Int32) : entryFrame m #[(.int p1), (.int p2), (.long q1), (.long q2)] maxLocals = mkF m 0 #[.val (.int p1), .val (.int p2), .val (.long q1), .second, .val (.long q2), .second, .unset, .unset, .unset, .unset, .unset, .unset, .unset] [] := by first | (simp [entryFrame, mkF, argsToLocals, Value.category, maxLocals]; done) | rfl
def Q0 (Z : State) (p1 : Int32) (p2 : Int32) (q1 : Int64) (q2 : Int64) (cs : Int32) (h0 : Heap) (n0 : Nat) (v : Option Value) (h : Heap) (L : List Loc) : Prop := v = some (.int (1 : Int32)) ∧ Fr n0 L
set_option maxRecDepth 65536 in
set_option maxHeartbeats 40000000 in
theorem rm0 (l : Launch) (Z : State) (a0 : Array Value) (hw : ∀ d ∈ tables_1, d.before a0 Z = true) (ws : List Jvm.Cond) (p1 : Int32) (p2 : Int32) (q1 : Int64) (q2 : Int64) (cs : Int32) (h0 : Heap) (n0 : Nat) (Z0 : n0 ≤ h0.size) (SBC : Sta Z Z.heap "java/lang/String" "COMPACT_STRINGS" "Z" (.int cs)) (hcs : ¬ (cs = (0 : Int32))) (SAD : Sta Z Z.heap "java/lang/StringUTF16" "$assertionsDisabled" "Z" (.int (1 : Int32))) (SHI : Sta Z Z.heap "java/lang/StringUTF16" "HI_BYTE_SHIFT" "I" (.int (0 : Int32))) (SLO : Sta Z Z.heap "java/lang/StringUTF16" "LO_BYTE_SHIFT" "I" (.int (8 : Int32))) (O_ : Old Z n0 h0) (hEL : EW Z a0 own_EL) :
    MetFree l x (head1 (Jvm.Cond.code x code maxLocals ret :: ws) room_1) (fun a U => a = #[(.int p1), (.int p2), (.long q1), (.long q2)] ∧ Z.Warmed39 U.vm ∧ U.heap = h0 ∧ CHv Z own_EL U.vm h0 ∧ ∀ x ∈ ([] : List Addr), Safe Z own_EL U.vm h0 x) (fun _ _ _ _ _ => True) (fun _ U o U' => ∃ v L, o = .returned v ∧ Q0 Z p1 p2 q1 q2 cs h0 n0 v U'.heap L ∧ CHr Z own_EL U.vm U.heap U'.vm U'.heap ∧ ReturnedEndW U o U' L room_1.cells room_1.slots) := by
  refine MetFree.of_bodySF (plainFor_of_name pn_0) hisR ?_
  intro p e s m args below meth c s₁ Bd hml0 hP hK
  obtain ⟨rfl, hZ, hh, hCH, hSL⟩ := hP
  have hx := Bd.exec
  have hby := Bd.bytes
  have hlk : meth.locks = false := BodyLoose.notSynchronized Bd
  have hml : c.maxLocals = 13 := hml0
  have hown : s.vm.findClass "com/example/rules_for_records/rulesforrecords/regex/InputAtEndPinLaw" = some m.cls := findClass_of_methodNamed Bd.named
  have hnm := (name_of_methodNamed Bd.named Bd.method).1
  have X0 : Stand p l e room_1 (s.setVm s.vm) m #[(.int p1), (.int p2), (.long q1), (.long q2)] below meth c s₁ [] 0 0 := Stand.of_body Bd
  have hZ0 : Z.Warmed39 (s.setVm s.vm).vm := hZ
  have hown0 : (s.setVm s.vm).vm.findClass "com/example/rules_for_records/rulesforrecords/regex/InputAtEndPinLaw" = some m.cls := hown
  have hS0 : s.Since s.vm h0.size := (State.WarmedH.refl s).since _
  have hk0 : h0.size ≤ h0.size := Nat.le_refl _
  have CR0 : CHr Z own_EL s.vm h0 s.vm h0 := CHr.refl hCH
  have e0 : s₁.heap = h0 := by rw [← hh, Bd.state]; rfl
  have N0 := Fr.nil n0
  show Gl p.tables e below (fun (o : Outcome) (U' : State) => ∃ v L, o = .returned v ∧ Q0 Z p1 p2 q1 q2 cs h0 n0 v U'.heap L ∧ CHr Z own_EL s.vm s.heap U'.vm U'.heap ∧ ReturnedEndW s o U' L room_1.cells room_1.slots) _
  refine Gl.pre (fun t k => castTop (ef_0 m p1 p2 q1 q2 cs) k) ?_
  obtain ⟨PP, hPP⟩ : ∃ P : Outcome → State → Prop, P = (fun (o : Outcome) (U' : State) => ∃ v L, o = .returned v ∧ Q0 Z p1 p2 q1 q2 cs h0 n0 v U'.heap L ∧ CHr Z own_EL s.vm s.heap U'.vm U'.heap ∧ ReturnedEndW s o U' L room_1.cells room_1.slots) := ⟨_, rfl⟩
  rw [← hPP]
  show Gl p.tables e below PP (s₁.setTop (mkF m 0 #[.val (.int p1), .val (.int p2), .val (.long q1), .second, .val (.long q2), .second, .unset, .unset, .unset, .unset, .unset, .unset, .unset] []))
  refine Gl.pre (fun _ k => XS.iloadN X0.here hx rfl (hb hby at_0) rfl k) ?_
  show Gl p.tables e below PP (s₁.setTop (mkF m 1 #[.val (.int p1), .val (.int p2), .val (.long q1), .second, .val (.long q2), .second, .unset, .unset, .unset, .unset, .unset, .unset, .unset] [(.int p1)]))
  refine Gl.pre (fun _ k => XS.iconst X0.here hx rfl (hb hby at_1) k) ?_
  show Gl p.tables e below PP (s₁.setTop (mkF m 2 #[.val (.int p1), .val (.int p2), .val (.long q1), .second, .val (.long q2), .second, .unset, .unset, .unset, .unset, .unset, .unset, .unset] [(.int (1 : Int32)), (.int p1)]))
  refine Gl.pre (fun _ k => XS.iand X0.here hx rfl (hb hby at_2) rfl k) ?_
  show Gl p.tables e below PP (s₁.setTop (mkF m 3 #[.val (.int p1), .val (.int p2), .val (.long q1), .second, .val (.long q2), .second, .unset, .unset, .unset, .unset, .unset, .unset, .unset] [(.int (p1 &&& (1 : Int32)))]))
  suffices J1 : Gl p.tables e below PP (s₁.setTop (mkF m 11 #[.val (.int p1), .val (.int p2), .val (.long q1), .second, .val (.long q2), .second, .unset, .unset, .unset, .unset, .unset, .unset, .unset] [(.int (own_pi (¬ ((p1 &&& (1 : Int32)) = (0 : Int32)))))])) by
    by_cases hd1 : (p1 &&& (1 : Int32)) = (0 : Int32)
    · rw [own_pi_nt hd1] at J1
      refine Gl.pre (fun _ k => XS.ifYes X0.here hx rfl (pc0 := 3) (pc' := 10) rfl (hb hby at_3) rfl ((if0 _ _).trans (teq hd1).1) (by decide) (by decide) k) ?_
      show Gl p.tables e below PP (s₁.setTop (mkF m 10 #[.val (.int p1), .val (.int p2), .val (.long q1), .second, .val (.long q2), .second, .unset, .unset, .unset, .unset, .unset, .unset, .unset] []))
      refine Gl.pre (fun _ k => XS.iconst X0.here hx rfl (hb hby at_10) k) ?_
      show Gl p.tables e below PP (s₁.setTop (mkF m 11 #[.val (.int p1), .val (.int p2), .val (.long q1), .second, .val (.long q2), .second, .unset, .unset, .unset, .unset, .unset, .unset, .unset] [(.int (0 : Int32))]))
      exact J1
    · rw [own_pi_nf hd1] at J1
      refine Gl.pre (fun _ k => XS.ifNo X0.here hx rfl (hb hby at_3) rfl ((if0 _ _).trans (feq hd1).1) k) ?_
      show Gl p.tables e below PP (s₁.setTop (mkF m 6 #[.val (.int p1), .val (.int p2), .val (.long q1), .second, .val (.long q2), .second, .unset, .unset, .unset, .unset, .unset, .unset, .unset] []))
      refine Gl.pre (fun _ k => XS.iconst X0.here hx rfl (hb hby at_6) k) ?_
      show Gl p.tables e below PP (s₁.setTop (mkF m 7 #[.val (.int p1), .val (.int p2), .val (.long q1), .second, .val (.long q2), .second, .unset, .unset, .unset, .unset, .unset, .unset, .unset] [(.int (1 : Int32))]))
      refine Gl.pre (fun _ k => XS.goto X0.here hx rfl (pc0 := 7) (pc' := 11) rfl (hb hby at_7) (by decide) (by decide) k) ?_
      show Gl p.tables e below PP (s₁.setTop (mkF m 11 #[.val (.int p1), .val (.int p2), .val (.long q1), .second, .val (.long q2), .second, .unset, .unset, .unset, .unset, .unset, .unset, .unset] [(.int (1 : Int32))]))
      exact J1
  show Gl p.tables e below PP (s₁.setTop (mkF m 11 #[.val (.int p1), .val (.int p2), .val (.long q1), .second, .val (.long q2), .second, .unset, .unset, .unset, .unset, .unset, .unset, .unset] [(.int (own_pi (¬ ((p1 &&& (1 : Int32)) = (0 : Int32)))))]))
  refine Gl.pre (fun _ k => XS.istore X0.here hx rfl (hb hby at_11) rfl (l' := #[.val (.int p1), .val (.int p2), .val (.long q1), .second, .val (.long q2), .second, .val (.int (own_pi (¬ ((p1 &&& (1 : Int32)) = (0 : Int32))))), .unset, .unset, .unset, .unset, .unset, .unset]) rfl k) ?_
  show Gl p.tables e below PP (s₁.setTop (mkF m 13 #[.val (.int p1), .val (.int p2), .val (.long q1), .second, .val (.long q2), .second, .val (.int (own_pi (¬ ((p1 &&& (1 : Int32)) = (0 : Int32))))), .unset, .unset, .unset, .unset, .unset, .unset] []))
  refine Gl.pre (fun _ k => XS.iloadN X0.here hx rfl (hb hby at_13) rfl k) ?_
  show Gl p.tables e below PP (s₁.setTop (mkF m 14 #[.val (.int p1), .val (.int p2), .val (.long q1), .second, .val (.long q2), .second, .val (.int (own_pi (¬ ((p1 &&& (1 : Int32)) = (0 : Int32))))), .unset, .unset, .unset, .unset, .unset, .unset] [(.int p1)]))
  refine Gl.pre (fun _ k => XS.iconst X0.here hx rfl (hb hby at_14) k) ?_
  show Gl p.tables e below PP (s₁.setTop (mkF m 15 #[.val (.int p1), .val (.int p2), .val (.long q1), .second, .val (.long q2), .second, .val (.int (own_pi (¬ ((p1 &&& (1 : Int32)) = (0 : Int32))))), .unset, .unset, .unset, .unset, .unset, .unset] [(.int (2 : Int32)), (.int p1)]))
  refine Gl.pre (fun _ k => XS.iushr X0.here hx rfl (hb hby at_15) rfl k) ?_
  show Gl p.tables e below PP (s₁.setTop (mkF m 16 #[.val (.int p1), .val (.int p2), .val (.long q1), .second, .val (.long q2), .second, .val (.int (own_pi (¬ ((p1 &&& (1 : Int32)) = (0 : Int32))))), .unset, .unset, .unset, .unset, .unset, .unset] [(.int (own_ushr p1 (2 : Int32)))]))
  refine Gl.pre (fun _ k => XS.iconst X0.here hx rfl (hb hby at_16) k) ?_
  show Gl p.tables e below PP (s₁.setTop (mkF m 17 #[.val (.int p1), .val (.int p2), .val (.long q1), .second, .val (.long q2), .second, .val (.int (own_pi (¬ ((p1 &&& (1 : Int32)) = (0 : Int32))))), .unset, .unset, .unset, .unset, .unset, .unset] [(.int (3 : Int32)), (.int (own_ushr p1 (2 : Int32)))]))
  refine Gl.pre (fun _ k => XS.iand X0.here hx rfl (hb hby at_17) rfl k) ?_
  show Gl p.tables e below PP (s₁.setTop (mkF m 18 #[.val (.int p1), .val (.int p2), .val (.long q1), .second, .val (.long q2), .second, .val (.int (own_pi (¬ ((p1 &&& (1 : Int32)) = (0 : Int32))))), .unset, .unset, .unset, .unset, .unset, .unset] [(.int ((own_ushr p1 (2 : Int32)) &&& (3 : Int32)))]))
  refine Gl.pre (fun _ k => XS.istore X0.here hx rfl (hb hby at_18) rfl (l' := #[.val (.int p1), .val (.int p2), .val (.long q1), .second, .val (.long q2), .second, .val (.int (own_pi (¬ ((p1 &&& (1 : Int32)) = (0 : Int32))))), .val (.int ((own_ushr p1 (2 : Int32)) &&& (3 : Int32))), .unset, .unset, .unset, .unset, .unset]) rfl k) ?_
  show Gl p.tables e below PP (s₁.setTop (mkF m 20 #[.val (.int p1), .val (.int p2), .val (.long q1), .second, .val (.long q2), .second, .val (.int (own_pi (¬ ((p1 &&& (1 : Int32)) = (0 : Int32))))), .val (.int ((own_ushr p1 (2 : Int32)) &&& (3 : Int32))), .unset, .unset, .unset, .unset, .unset] []))
  refine Gl.pre (fun _ k => XS.iloadN X0.here hx rfl (hb hby at_20) rfl k) ?_
  show Gl p.tables e below PP (s₁.setTop (mkF m 21 #[.val (.int p1), .val (.int p2), .val (.long q1), .second, .val (.long q2), .second, .val (.int (own_pi (¬ ((p1 &&& (1 : Int32)) = (0 : Int32))))), .val (.int ((own_ushr p1 (2 : Int32)) &&& (3 : Int32))), .unset, .unset, .unset, .unset, .unset] [(.int p1)]))
  refine Gl.pre (fun _ k => XS.iconst X0.here hx rfl (hb hby at_21) k) ?_
  show Gl p.tables e below PP (s₁.setTop (mkF m 22 #[.val (.int p1), .val (.int p2), .val (.long q1), .second, .val (.long q2), .second, .val (.int (own_pi (¬ ((p1 &&& (1 : Int32)) = (0 : Int32))))), .val (.int ((own_ushr p1 (2 : Int32)) &&& (3 : Int32))), .unset, .unset, .unset, .unset, .unset] [(.int (2 : Int32)), (.int p1)]))
  refine Gl.pre (fun _ k => XS.iand X0.here hx rfl (hb hby at_22) rfl k) ?_
  show Gl p.tables e below PP (s₁.setTop (mkF m 23 #[.val (.int p1), .val (.int p2), .val (.long q1), .second, .val (.long q2), .second, .val (.int (own_pi (¬ ((p1 &&& (1 : Int32)) = (0 : Int32))))), .val (.int ((own_ushr p1 (2 : Int32)) &&& (3 : Int32))), .unset, .unset, .unset, .unset, .unset] [(.int (p1 &&& (2 : Int32)))]))
  by_cases hc2 : (p1 &&& (2 : Int32)) = (0 : Int32)
  · refine Gl.pre (fun _ k => XS.ifYes X0.here hx rfl (pc0 := 23) (pc' := 30) rfl (hb hby at_23) rfl ((if0 _ _).trans (teq hc2).1) (by decide) (by decide) k) ?_
    show Gl p.tables e below PP (s₁.setTop (mkF m 30 #[.val (.int p1), .val (.int p2), .val (.long q1), .second, .val (.long q2), .second, .val (.int (own_pi (¬ ((p1 &&& (1 : Int32)) = (0 : Int32))))), .val (.int ((own_ushr p1 (2 : Int32)) &&& (3 : Int32))), .unset, .unset, .unset, .unset, .unset] []))
    refine Gl.pre (fun _ k => XS.iloadN X0.here hx rfl (hb hby at_30) rfl k) ?_
    show Gl p.tables e below PP (s₁.setTop (mkF m 31 #[.val (.int p1), .val (.int p2), .val (.long q1), .second, .val (.long q2), .second, .val (.int (own_pi (¬ ((p1 &&& (1 : Int32)) = (0 : Int32))))), .val (.int ((own_ushr p1 (2 : Int32)) &&& (3 : Int32))), .unset, .unset, .unset, .unset, .unset] [(.int p2)]))
    refine Gl.pre (fun _ k => XS.bipush X0.here hx rfl (hb hby at_31) k) ?_
    show Gl p.tables e below PP (s₁.setTop (mkF m 33 #[.val (.int p1), .val (.int p2), .val (.long q1), .second, .val (.long q2), .second, .val (.int (own_pi (¬ ((p1 &&& (1 : Int32)) = (0 : Int32))))), .val (.int ((own_ushr p1 (2 : Int32)) &&& (3 : Int32))), .unset, .unset, .unset, .unset, .unset] [(.int (7 : Int32)), (.int p2)]))
    refine Gl.pre (fun _ k => XS.iand X0.here hx rfl (hb hby at_33) rfl k) ?_
    show Gl p.tables e below PP (s₁.setTop (mkF m 34 #[.val (.int p1), .val (.int p2), .val (.long q1), .second, .val (.long q2), .second, .val (.int (own_pi (¬ ((p1 &&& (1 : Int32)) = (0 : Int32))))), .val (.int ((own_ushr p1 (2 : Int32)) &&& (3 : Int32))), .unset, .unset, .unset, .unset, .unset] [(.int (p2 &&& (7 : Int32)))]))
    refine Gl.pre (fun _ k => XS.iconst X0.here hx rfl (hb hby at_34) k) ?_
    show Gl p.tables e below PP (s₁.setTop (mkF m 35 #[.val (.int p1), .val (.int p2), .val (.long q1), .second, .val (.long q2), .second, .val (.int (own_pi (¬ ((p1 &&& (1 : Int32)) = (0 : Int32))))), .val (.int ((own_ushr p1 (2 : Int32)) &&& (3 : Int32))), .unset, .unset, .unset, .unset, .unset] [(.int (2 : Int32)), (.int (p2 &&& (7 : Int32)))]))
    refine Gl.pre (fun _ k => XS.isub X0.here hx rfl (hb hby at_35) rfl k) ?_
    show Gl p.tables e below PP (s₁.setTop (mkF m 36 #[.val (.int p1), .val (.int p2), .val (.long q1), .second, .val (.long q2), .second, .val (.int (own_pi (¬ ((p1 &&& (1 : Int32)) = (0 : Int32))))), .val (.int ((own_ushr p1 (2 : Int32)) &&& (3 : Int32))), .unset, .unset, .unset, .unset, .unset] [(.int ((p2 &&& (7 : Int32)) - (2 : Int32)))]))
    refine Gl.pre (fun _ k => XS.istore X0.here hx rfl (hb hby at_36) rfl (l' := #[.val (.int p1), .val (.int p2), .val (.long q1), .second, .val (.long q2), .second, .val (.int (own_pi (¬ ((p1 &&& (1 : Int32)) = (0 : Int32))))), .val (.int ((own_ushr p1 (2 : Int32)) &&& (3 : Int32))), .val (.int ((p2 &&& (7 : Int32)) - (2 : Int32))), .unset, .unset, .unset, .unset]) rfl k) ?_
    show Gl p.tables e below PP (s₁.setTop (mkF m 38 #[.val (.int p1), .val (.int p2), .val (.long q1), .second, .val (.long q2), .second, .val (.int (own_pi (¬ ((p1 &&& (1 : Int32)) = (0 : Int32))))), .val (.int ((own_ushr p1 (2 : Int32)) &&& (3 : Int32))), .val (.int ((p2 &&& (7 : Int32)) - (2 : Int32))), .unset, .unset, .unset, .unset] []))
    refine Gl.pre (fun _ k => XS.iload X0.here hx rfl (hb hby at_38) rfl k) ?_
    show Gl p.tables e below PP (s₁.setTop (mkF m 40 #[.val (.int p1), .val (.int p2), .val (.long q1), .second, .val (.long q2), .second, .val (.int (own_pi (¬ ((p1 &&& (1 : Int32)) = (0 : Int32))))), .val (.int ((own_ushr p1 (2 : Int32)) &&& (3 : Int32))), .val (.int ((p2 &&& (7 : Int32)) - (2 : Int32))), .unset, .unset, .unset, .unset] [(.int ((own_ushr p1 (2 : Int32)) &&& (3 : Int32)))]))
    refine Gl.pre (fun _ k => XS.lloadN X0.here hx rfl (hb hby at_40) rfl k) ?_
    show Gl p.tables e below PP (s₁.setTop (mkF m 41 #[.val (.int p1), .val (.int p2), .val (.long q1), .second, .val (.long q2), .second, .val (.int (own_pi (¬ ((p1 &&& (1 : Int32)) = (0 : Int32))))), .val (.int ((own_ushr p1 (2 : Int32)) &&& (3 : Int32))), .val (.int ((p2 &&& (7 : Int32)) - (2 : Int32))), .unset, .unset, .unset, .unset] [(.long q1), (.int ((own_ushr p1 (2 : Int32)) &&& (3 : Int32)))]))
    obtain ⟨_, _, ⟨T3, L3, k3, n3⟩, -, X3, hS3c, hg3, ⟨Lc3, hQ3, l3, y3, z3, CR3c⟩, st3⟩ := callSS X0 hx (y := (⟨"com/example/rules_for_records/rulesforrecords/regex/InputAtEndPinLaw", "make", "(IJ)Ljava/lang/String;"⟩ : MethodName)) hown0 (mvT hZ0 (hw _ (List.mem_of_getElem? (i := 0) rfl))) (mvT hZ0 (hw _ (List.mem_of_getElem? (i := 1) rfl))) (mvT hZ0 (hw _ (List.mem_of_getElem? (i := 2) rfl))) (mvT hZ0 (hw _ (List.mem_of_getElem? (i := 3) rfl))) (by decide) (own_backH (W := 0) (rm1 l Z a0 hw [] ((own_ushr p1 (2 : Int32)) &&& (3 : Int32)) q1 cs h0 n0 Z0 (own_n3 p1) SBC hcs SAD SHI SLO O_ hEL) hZ0 (hw _ (List.mem_of_getElem? (i := 3) rfl)) (hw _ (List.mem_of_getElem? (i := 2) rfl)) (by decide) (by decide) hEL CR0.1 all0) (g := (mkF m 41 #[.val (.int p1), .val (.int p2), .val (.long q1), .second, .val (.long q2), .second, .val (.int (own_pi (¬ ((p1 &&& (1 : Int32)) = (0 : Int32))))), .val (.int ((own_ushr p1 (2 : Int32)) &&& (3 : Int32))), .val (.int ((p2 &&& (7 : Int32)) - (2 : Int32))), .unset, .unset, .unset, .unset] [(.long q1), (.int ((own_ushr p1 (2 : Int32)) &&& (3 : Int32)))])) rfl (by rw [hml]; rfl) (argsL := [(.int ((own_ushr p1 (2 : Int32)) &&& (3 : Int32))), (.long q1)]) (rest := []) (lenOf pd_11 rfl) rfl (by show 2 * 0 + _ ≤ _; exact Nat.le_of_eq rfl) (hb hby at_41) (fun _ _ => ⟨rfl, e0, (by decide : 0 + 6 ≤ _), (by decide : 0 + 16 ≤ _)⟩)
    dsimp only [Pt.U, Pt.locs, Pt.cells, Pt.slots] at X3 l3 y3 z3 st3 hQ3 hS3c hg3 CR3c
    subst l3 y3 z3
    have X3 : Stand p l e room_1 (s.setVm T3.vm) m #[(.int p1), (.int p2), (.long q1), (.long q2)] below meth c T3 _ _ _ := X3
    have hS3 := foldS hS0 (Nat.le_trans hk0 (Nat.le_of_eq (congrArg Array.size e0.symm))) hS3c hg3
    have hZ3 : Z.Warmed39 (s.setVm T3.vm).vm := State.Warmed39.trans (t := s.setVm s.vm) hZ0 hS3c.1
    have hown3 : (s.setVm T3.vm).vm.findClass "com/example/rules_for_records/rulesforrecords/regex/InputAtEndPinLaw" = some m.cls := by rw [show (s.setVm T3.vm).vm = T3.vm from rfl, hS3c.1.alike.findClass]; exact hown0
    have CR3 := CR0.trans CR3c
    obtain ⟨sa3, rfl, N3q, hz3, K3, Ea3, vb3, ys3, co3, hco3, hln3, hne3, Fv3, Fc3, Vs3⟩ := hQ3
    have N3 := Fr.app N0 N3q
    refine Gl.pre (fun _ k => st3.trans k) ?_
    have g_sa3 : n0 ≤ sa3 := Nat.le_trans Z0 hz3
    have Sf_sa30 := Safe.new (Z := Z) (EL := own_EL) (vm := T3.vm) hz3
    have O_ := O_.keep K3 all0
    have Z3 : n0 ≤ T3.heap.size := Nat.le_trans Z0 K3.1
    have E_sa3 := Ea3
    have F_value_sa3 := Fv3
    have F_coder_sa3 := Fc3
    have V_vb3 := Vs3
    have own_ne_vb3_sa3 := hne3
    have own_ne_sa3_vb3 := hne3.symm
    show Gl p.tables e below PP (T3.setTop (mkF m 44 #[.val (.int p1), .val (.int p2), .val (.long q1), .second, .val (.long q2), .second, .val (.int (own_pi (¬ ((p1 &&& (1 : Int32)) = (0 : Int32))))), .val (.int ((own_ushr p1 (2 : Int32)) &&& (3 : Int32))), .val (.int ((p2 &&& (7 : Int32)) - (2 : Int32))), .unset, .unset, .unset, .unset] [(.ref sa3)]))
    refine Gl.pre (fun _ k => XS.astore X3.here hx rfl (hb hby at_44) rfl rfl (l' := #[.val (.int p1), .val (.int p2), .val (.long q1), .second, .val (.long q2), .second, .val (.int (own_pi (¬ ((p1 &&& (1 : Int32)) = (0 : Int32))))), .val (.int ((own_ushr p1 (2 : Int32)) &&& (3 : Int32))), .val (.int ((p2 &&& (7 : Int32)) - (2 : Int32))), .val (.ref sa3), .unset, .unset, .unset]) rfl k) ?_
    show Gl p.tables e below PP (T3.setTop (mkF m 46 #[.val (.int p1), .val (.int p2), .val (.long q1), .second, .val (.long q2), .second, .val (.int (own_pi (¬ ((p1 &&& (1 : Int32)) = (0 : Int32))))), .val (.int ((own_ushr p1 (2 : Int32)) &&& (3 : Int32))), .val (.int ((p2 &&& (7 : Int32)) - (2 : Int32))), .val (.ref sa3), .unset, .unset, .unset] []))
    obtain ⟨T4, h4, X4, e4, E4, A4, D4, -, st4⟩ := newO X3 hx hZ3 hown3 (hw _ (List.mem_of_getElem? (i := 26) rfl)) (hw _ (List.mem_of_getElem? (i := 27) rfl)) (hw _ (List.mem_of_getElem? (i := 28) rfl)) rfl (g := (mkF m 46 #[.val (.int p1), .val (.int p2), .val (.long q1), .second, .val (.long q2), .second, .val (.int (own_pi (¬ ((p1 &&& (1 : Int32)) = (0 : Int32))))), .val (.int ((own_ushr p1 (2 : Int32)) &&& (3 : Int32))), .val (.int ((p2 &&& (7 : Int32)) - (2 : Int32))), .val (.ref sa3), .unset, .unset, .unset] [])) rfl (hb hby at_46) (by decide) (by decide)
    obtain ⟨b4, g4⟩ : ∃ z, z = T3.heap.size := ⟨_, rfl⟩
    rw [← g4] at A4 D4 st4
    refine Gl.pre (fun _ k => st4 _ k) ?_
    have own_ne_sa3_b4 : sa3 ≠ b4 := by have q := E_sa3.lt; rw [g4]; exact Nat.ne_of_lt q
    have own_ne_b4_sa3 : b4 ≠ sa3 := own_ne_sa3_b4.symm
    have own_ne_vb3_b4 : vb3 ≠ b4 := by have q := V_vb3.lt; rw [g4]; exact Nat.ne_of_lt q
    have own_ne_b4_vb3 : b4 ≠ vb3 := own_ne_vb3_b4.symm
    have g_b4 : n0 ≤ b4 := Nat.le_trans Z3 (Nat.le_of_eq g4.symm)
    have Sf_b4 := Safe.ext E4 CR3.1 (Safe.new (Z := Z) (EL := own_EL) (vm := T3.vm) (Nat.le_of_eq g4.symm))
    have CR4 := CR3.trans (CHr.ext E4 CR3.1)
    have O_ := O_.ext E4
    have E_sa3 := E_sa3.ext E4
    have F_value_sa3 := F_value_sa3.ext E4
    have F_coder_sa3 := F_coder_sa3.ext E4
    have V_vb3 := V_vb3.ext E4
    have Z4 : n0 ≤ h4.size := Nat.le_trans Z3 E4.1
    have hk4 := Nat.le_trans (Nat.le_refl _) E4.1
    have E_b4 := A4
    have F_text_b4 : Fld Z h4 b4 "com/example/rules_for_records/rulesforrecords/regex/Input" "text" "Ljava/lang/String;" .null := D4 (Or.inr (hw _ (List.mem_of_getElem? (i := 34) rfl))) (ty := (.object "java/lang/String")) (by decide)
    have F_length_b4 : Fld Z h4 b4 "com/example/rules_for_records/rulesforrecords/regex/Input" "length" "I" (.int (0 : Int32)) := D4 (Or.inr (hw _ (List.mem_of_getElem? (i := 47) rfl))) (ty := .int) (by decide)
    have F_stepsLeft_b4 : Fld Z h4 b4 "com/example/rules_for_records/rulesforrecords/regex/Input" "stepsLeft" "J" (.long (0 : Int64)) := D4 (Or.inl (hw _ (List.mem_of_getElem? (i := 49) rfl))) (ty := .long) (by decide)
    show Gl p.tables e below PP (T4.setTop (mkF m 49 #[.val (.int p1), .val (.int p2), .val (.long q1), .second, .val (.long q2), .second, .val (.int (own_pi (¬ ((p1 &&& (1 : Int32)) = (0 : Int32))))), .val (.int ((own_ushr p1 (2 : Int32)) &&& (3 : Int32))), .val (.int ((p2 &&& (7 : Int32)) - (2 : Int32))), .val (.ref sa3), .unset, .unset, .unset] [(.ref b4)]))
    refine Gl.pre (fun _ k => XS.dup X4.here hx rfl (hb hby at_49) rfl rfl k) ?_
    show Gl p.tables e below PP (T4.setTop (mkF m 50 #[.val (.int p1), .val (.int p2), .val (.long q1), .second, .val (.long q2), .second, .val (.int (own_pi (¬ ((p1 &&& (1 : Int32)) = (0 : Int32))))), .val (.int ((own_ushr p1 (2 : Int32)) &&& (3 : Int32))), .val (.int ((p2 &&& (7 : Int32)) - (2 : Int32))), .val (.ref sa3), .unset, .unset, .unset] [(.ref b4), (.ref b4)]))
    refine Gl.pre (fun _ k => XS.aload X4.here hx rfl (hb hby at_50) rfl rfl k) ?_
    show Gl p.tables e below PP (T4.setTop (mkF m 52 #[.val (.int p1), .val (.int p2), .val (.long q1), .second, .val (.long q2), .second, .val (.int (own_pi (¬ ((p1 &&& (1 : Int32)) = (0 : Int32))))), .val (.int ((own_ushr p1 (2 : Int32)) &&& (3 : Int32))), .val (.int ((p2 &&& (7 : Int32)) - (2 : Int32))), .val (.ref sa3), .unset, .unset, .unset] [(.ref sa3), (.ref b4), (.ref b4)]))
    refine Gl.pre (fun _ k => XS.lload X4.here hx rfl (hb hby at_52) rfl k) ?_
    show Gl p.tables e below PP (T4.setTop (mkF m 54 #[.val (.int p1), .val (.int p2), .val (.long q1), .second, .val (.long q2), .second, .val (.int (own_pi (¬ ((p1 &&& (1 : Int32)) = (0 : Int32))))), .val (.int ((own_ushr p1 (2 : Int32)) &&& (3 : Int32))), .val (.int ((p2 &&& (7 : Int32)) - (2 : Int32))), .val (.ref sa3), .unset, .unset, .unset] [(.long q2), (.ref sa3), (.ref b4), (.ref b4)]))
    obtain ⟨_, _, ⟨T5, L5, k5, n5⟩, -, X5, ⟨Lc5, hQ5, l5, y5, z5⟩, st5⟩ := X4.specialBack hx (y := (⟨"com/example/rules_for_records/rulesforrecords/regex/Input", "<init>", "(Ljava/lang/String;J)V"⟩ : MethodName)) rfl hown3 (mvT hZ3 (hw _ (List.mem_of_getElem? (i := 29) rfl))) (mvT hZ3 (hw _ (List.mem_of_getElem? (i := 30) rfl))) (mvT hZ3 (hw _ (List.mem_of_getElem? (i := 31) rfl))) (by decide) (backOf (W := 1) (rm5 l Z a0 hw [] b4 sa3 q2 ((own_ushr p1 (2 : Int32)) &&& (3 : Int32)) cs co3 vb3 ys3 h4 n0 Z4 E_b4 F_text_b4 F_length_b4 F_stepsLeft_b4 g_b4 E_sa3 F_value_sa3 F_coder_sa3 V_vb3 hco3 hln3 own_ne_b4_sa3 own_ne_sa3_b4 own_ne_b4_vb3 own_ne_vb3_b4 SBC hcs O_) hZ3 (hw _ (List.mem_of_getElem? (i := 31) rfl)) (hw _ (List.mem_of_getElem? (i := 28) rfl)) (by decide) (by decide)) (g := (mkF m 54 #[.val (.int p1), .val (.int p2), .val (.long q1), .second, .val (.long q2), .second, .val (.int (own_pi (¬ ((p1 &&& (1 : Int32)) = (0 : Int32))))), .val (.int ((own_ushr p1 (2 : Int32)) &&& (3 : Int32))), .val (.int ((p2 &&& (7 : Int32)) - (2 : Int32))), .val (.ref sa3), .unset, .unset, .unset] [(.long q2), (.ref sa3), (.ref b4), (.ref b4)])) rfl (by rw [hml]; rfl) (Steps.refl _) (a := b4) (argsL := [(.ref sa3), (.long q2)]) (rest := [(.ref b4)]) (lenOf pd_12 rfl) rfl (by show 2 * 0 + _ ≤ _; exact Nat.le_of_eq rfl) (hb hby at_54) (fun _ _ => ⟨rfl, e4, (by decide : 7 + 0 ≤ _), (by decide : 19 + 0 ≤ _)⟩)
    dsimp only [Pt.U, Pt.locs, Pt.cells, Pt.slots] at X5 l5 y5 z5 st5 hQ5
    subst l5 y5 z5
    obtain ⟨rfl, N5q, K5, Fl5⟩ := hQ5
    have N5 := Fr.app N3 N5q
    refine Gl.pre (fun _ k => st5.trans k) ?_
    have hs5 : ∀ x ∈ [b4], Safe Z own_EL _ _ x := (allS Sf_b4 all0)
    have Sf_b4 := Safe.keep K5 hs5 CR4.1 Sf_b4
    have CR5 := CR4.trans (CHr.keep K5 hs5 CR4.1)
    have O_ := O_.keep K5 (allS g_b4 all0)
    have E_sa3 := E_sa3.keep K5
    have F_value_sa3 := F_value_sa3.keep K5 (ninS (own_ne_sa3_b4) nin0)
    have F_coder_sa3 := F_coder_sa3.keep K5 (ninS (own_ne_sa3_b4) nin0)
    have V_vb3 := V_vb3.keep K5 (ninS (own_ne_vb3_b4) nin0)
    have E_b4 := E_b4.keep K5
    have hk5 := Nat.le_trans hk4 K5.1
    have Z5 : n0 ≤ T5.heap.size := Nat.le_trans Z4 K5.1
    have F_length_b4 := Fl5
    show Gl p.tables e below PP (T5.setTop (mkF m 57 #[.val (.int p1), .val (.int p2), .val (.long q1), .second, .val (.long q2), .second, .val (.int (own_pi (¬ ((p1 &&& (1 : Int32)) = (0 : Int32))))), .val (.int ((own_ushr p1 (2 : Int32)) &&& (3 : Int32))), .val (.int ((p2 &&& (7 : Int32)) - (2 : Int32))), .val (.ref sa3), .unset, .unset, .unset] [(.ref b4)]))
    refine Gl.pre (fun _ k => XS.astore X5.here hx rfl (hb hby at_57) rfl rfl (l' := #[.val (.int p1), .val (.int p2), .val (.long q1), .second, .val (.long q2), .second, .val (.int (own_pi (¬ ((p1 &&& (1 : Int32)) = (0 : Int32))))), .val (.int ((own_ushr p1 (2 : Int32)) &&& (3 : Int32))), .val (.int ((p2 &&& (7 : Int32)) - (2 : Int32))), .val (.ref sa3), .val (.ref b4), .unset, .unset]) rfl k) ?_
    show Gl p.tables e below PP (T5.setTop (mkF m 59 #[.val (.int p1), .val (.int p2), .val (.long q1), .second, .val (.long q2), .second, .val (.int (own_pi (¬ ((p1 &&& (1 : Int32)) = (0 : Int32))))), .val (.int ((own_ushr p1 (2 : Int32)) &&& (3 : Int32))), .val (.int ((p2 &&& (7 : Int32)) - (2 : Int32))), .val (.ref sa3), .val (.ref b4), .unset, .unset] []))
    refine Gl.pre (fun _ k => XS.aload X5.here hx rfl (hb hby at_59) rfl rfl k) ?_
    show Gl p.tables e below PP (T5.setTop (mkF m 61 #[.val (.int p1), .val (.int p2), .val (.long q1), .second, .val (.long q2), .second, .val (.int (own_pi (¬ ((p1 &&& (1 : Int32)) = (0 : Int32))))), .val (.int ((own_ushr p1 (2 : Int32)) &&& (3 : Int32))), .val (.int ((p2 &&& (7 : Int32)) - (2 : Int32))), .val (.ref sa3), .val (.ref b4), .unset, .unset] [(.ref b4)]))
    refine Gl.pre (fun _ k => XS.iload X5.here hx rfl (hb hby at_61) rfl k) ?_
    show Gl p.tables e below PP (T5.setTop (mkF m 63 #[.val (.int p1), .val (.int p2), .val (.long q1), .second, .val (.long q2), .second, .val (.int (own_pi (¬ ((p1 &&& (1 : Int32)) = (0 : Int32))))), .val (.int ((own_ushr p1 (2 : Int32)) &&& (3 : Int32))), .val (.int ((p2 &&& (7 : Int32)) - (2 : Int32))), .val (.ref sa3), .val (.ref b4), .unset, .unset] [(.int ((p2 &&& (7 : Int32)) - (2 : Int32))), (.ref b4)]))
    refine Gl.pre (fun _ k => XS.iload X5.here hx rfl (hb hby at_63) rfl k) ?_
    show Gl p.tables e below PP (T5.setTop (mkF m 65 #[.val (.int p1), .val (.int p2), .val (.long q1), .second, .val (.long q2), .second, .val (.int (own_pi (¬ ((p1 &&& (1 : Int32)) = (0 : Int32))))), .val (.int ((own_ushr p1 (2 : Int32)) &&& (3 : Int32))), .val (.int ((p2 &&& (7 : Int32)) - (2 : Int32))), .val (.ref sa3), .val (.ref b4), .unset, .unset] [(.int (own_pi (¬ ((p1 &&& (1 : Int32)) = (0 : Int32))))), (.int ((p2 &&& (7 : Int32)) - (2 : Int32))), (.ref b4)]))
    obtain ⟨cq6, kq6, qa6, qb6, qc6⟩ := isOf hZ3 rfl E_b4
    obtain ⟨_, _, ⟨T6, L6, k6, n6⟩, -, X6, ⟨Lc6, hQ6, l6, y6, z6⟩, st6⟩ := X5.virtualBack hx (y := (⟨"com/example/rules_for_records/rulesforrecords/regex/Input", "atEnd", "(IZ)Z"⟩ : MethodName)) (z := (⟨"com/example/rules_for_records/rulesforrecords/regex/Input", "atEnd", "(IZ)Z"⟩ : MethodName)) hown3 (mvT hZ3 (hw _ (List.mem_of_getElem? (i := 50) rfl))) (mvT hZ3 (hw _ (List.mem_of_getElem? (i := 51) rfl))) (notFace_of_selects (args := #[]) (mvT hZ3 (hw _ (List.mem_of_getElem? (i := 53) rfl)))) (mvT hZ3 (hw _ (List.mem_of_getElem? (i := 53) rfl))) (mvT hZ3 (hw _ (List.mem_of_getElem? (i := 52) rfl))) (by decide) (backOf (W := 0) (rm8 l Z a0 hw [] b4 ((p2 &&& (7 : Int32)) - (2 : Int32)) (own_pi (¬ ((p1 &&& (1 : Int32)) = (0 : Int32)))) ((own_ushr p1 (2 : Int32)) &&& (3 : Int32)) T5.heap n0 Z5 F_length_b4) hZ3 (hw _ (List.mem_of_getElem? (i := 54) rfl)) (hw _ (List.mem_of_getElem? (i := 28) rfl)) (by decide) (by decide)) qa6 qc6 (g := (mkF m 65 #[.val (.int p1), .val (.int p2), .val (.long q1), .second, .val (.long q2), .second, .val (.int (own_pi (¬ ((p1 &&& (1 : Int32)) = (0 : Int32))))), .val (.int ((own_ushr p1 (2 : Int32)) &&& (3 : Int32))), .val (.int ((p2 &&& (7 : Int32)) - (2 : Int32))), .val (.ref sa3), .val (.ref b4), .unset, .unset] [(.int (own_pi (¬ ((p1 &&& (1 : Int32)) = (0 : Int32))))), (.int ((p2 &&& (7 : Int32)) - (2 : Int32))), (.ref b4)])) rfl (by rw [hml]; rfl) (Steps.refl _) (argsL := [(.int ((p2 &&& (7 : Int32)) - (2 : Int32))), (.int (own_pi (¬ ((p1 &&& (1 : Int32)) = (0 : Int32)))))]) (rest := []) (lenOf pd_13 rfl) rfl (by show 2 * 0 + _ ≤ _; exact Nat.le_of_eq rfl) (hb hby at_65) (fun _ _ => ⟨rfl, rfl, (by decide : 7 + 0 ≤ _), (by decide : 19 + 0 ≤ _)⟩)
    dsimp only [Pt.U, Pt.locs, Pt.cells, Pt.slots] at X6 l6 y6 z6 st6 hQ6
    subst l6 y6 z6
    obtain ⟨rfl, N6q, e6⟩ := hQ6
    have N6 := Fr.app N5 N6q
    refine Gl.pre (fun _ k => st6.trans k) ?_
    show Gl p.tables e below PP (T6.setTop (mkF m 68 #[.val (.int p1), .val (.int p2), .val (.long q1), .second, .val (.long q2), .second, .val (.int (own_pi (¬ ((p1 &&& (1 : Int32)) = (0 : Int32))))), .val (.int ((own_ushr p1 (2 : Int32)) &&& (3 : Int32))), .val (.int ((p2 &&& (7 : Int32)) - (2 : Int32))), .val (.ref sa3), .val (.ref b4), .unset, .unset] [(.int (own_pi ((¬ ((own_pi (¬ ((p1 &&& (1 : Int32)) = (0 : Int32)))) = (0 : Int32)) ∧ ((p2 &&& (7 : Int32)) - (2 : Int32)) = (0 : Int32)) ∨ ((own_pi (¬ ((p1 &&& (1 : Int32)) = (0 : Int32)))) = (0 : Int32) ∧ ((p2 &&& (7 : Int32)) - (2 : Int32)) = ((own_ushr p1 (2 : Int32)) &&& (3 : Int32))))))]))
    refine Gl.pre (fun _ k => XS.istore X6.here hx rfl (hb hby at_68) rfl (l' := #[.val (.int p1), .val (.int p2), .val (.long q1), .second, .val (.long q2), .second, .val (.int (own_pi (¬ ((p1 &&& (1 : Int32)) = (0 : Int32))))), .val (.int ((own_ushr p1 (2 : Int32)) &&& (3 : Int32))), .val (.int ((p2 &&& (7 : Int32)) - (2 : Int32))), .val (.ref sa3), .val (.ref b4), .val (.int (own_pi ((¬ ((own_pi (¬ ((p1 &&& (1 : Int32)) = (0 : Int32)))) = (0 : Int32)) ∧ ((p2 &&& (7 : Int32)) - (2 : Int32)) = (0 : Int32)) ∨ ((own_pi (¬ ((p1 &&& (1 : Int32)) = (0 : Int32)))) = (0 : Int32) ∧ ((p2 &&& (7 : Int32)) - (2 : Int32)) = ((own_ushr p1 (2 : Int32)) &&& (3 : Int32)))))), .unset]) rfl k) ?_
    show Gl p.tables e below PP (T6.setTop (mkF m 70 #[.val (.int p1), .val (.int p2), .val (.long q1), .second, .val (.long q2), .second, .val (.int (own_pi (¬ ((p1 &&& (1 : Int32)) = (0 : Int32))))), .val (.int ((own_ushr p1 (2 : Int32)) &&& (3 : Int32))), .val (.int ((p2 &&& (7 : Int32)) - (2 : Int32))), .val (.ref sa3), .val (.ref b4), .val (.int (own_pi ((¬ ((own_pi (¬ ((p1 &&& (1 : Int32)) = (0 : Int32)))) = (0 : Int32)) ∧ ((p2 &&& (7 : Int32)) - (2 : Int32)) = (0 : Int32)) ∨ ((own_pi (¬ ((p1 &&& (1 : Int32)) = (0 : Int32)))) = (0 : Int32) ∧ ((p2 &&& (7 : Int32)) - (2 : Int32)) = ((own_ushr p1 (2 : Int32)) &&& (3 : Int32)))))), .unset] []))
    refine Gl.pre (fun _ k => XS.iload X6.here hx rfl (hb hby at_70) rfl k) ?_
    show Gl p.tables e below PP (T6.setTop (mkF m 72 #[.val (.int p1), .val (.int p2), .val (.long q1), .second, .val (.long q2), .second, .val (.int (own_pi (¬ ((p1 &&& (1 : Int32)) = (0 : Int32))))), .val (.int ((own_ushr p1 (2 : Int32)) &&& (3 : Int32))), .val (.int ((p2 &&& (7 : Int32)) - (2 : Int32))), .val (.ref sa3), .val (.ref b4), .val (.int (own_pi ((¬ ((own_pi (¬ ((p1 &&& (1 : Int32)) = (0 : Int32)))) = (0 : Int32)) ∧ ((p2 &&& (7 : Int32)) - (2 : Int32)) = (0 : Int32)) ∨ ((own_pi (¬ ((p1 &&& (1 : Int32)) = (0 : Int32)))) = (0 : Int32) ∧ ((p2 &&& (7 : Int32)) - (2 : Int32)) = ((own_ushr p1 (2 : Int32)) &&& (3 : Int32)))))), .unset] [(.int (own_pi (¬ ((p1 &&& (1 : Int32)) = (0 : Int32)))))]))
    by_cases hc7 : ¬ ((p1 &&& (1 : Int32)) = (0 : Int32))
    · refine Gl.pre (fun _ k => XS.ifNo X6.here hx rfl (hb hby at_72) rfl ((if0 _ _).trans (feq (fun q => (own_pi0 (P := ¬ ((p1 &&& (1 : Int32)) = (0 : Int32)))).mp q hc7)).1) k) ?_
      show Gl p.tables e below PP (T6.setTop (mkF m 75 #[.val (.int p1), .val (.int p2), .val (.long q1), .second, .val (.long q2), .second, .val (.int (own_pi (¬ ((p1 &&& (1 : Int32)) = (0 : Int32))))), .val (.int ((own_ushr p1 (2 : Int32)) &&& (3 : Int32))), .val (.int ((p2 &&& (7 : Int32)) - (2 : Int32))), .val (.ref sa3), .val (.ref b4), .val (.int (own_pi ((¬ ((own_pi (¬ ((p1 &&& (1 : Int32)) = (0 : Int32)))) = (0 : Int32)) ∧ ((p2 &&& (7 : Int32)) - (2 : Int32)) = (0 : Int32)) ∨ ((own_pi (¬ ((p1 &&& (1 : Int32)) = (0 : Int32)))) = (0 : Int32) ∧ ((p2 &&& (7 : Int32)) - (2 : Int32)) = ((own_ushr p1 (2 : Int32)) &&& (3 : Int32)))))), .unset] []))
      refine Gl.pre (fun _ k => XS.iload X6.here hx rfl (hb hby at_75) rfl k) ?_
      show Gl p.tables e below PP (T6.setTop (mkF m 77 #[.val (.int p1), .val (.int p2), .val (.long q1), .second, .val (.long q2), .second, .val (.int (own_pi (¬ ((p1 &&& (1 : Int32)) = (0 : Int32))))), .val (.int ((own_ushr p1 (2 : Int32)) &&& (3 : Int32))), .val (.int ((p2 &&& (7 : Int32)) - (2 : Int32))), .val (.ref sa3), .val (.ref b4), .val (.int (own_pi ((¬ ((own_pi (¬ ((p1 &&& (1 : Int32)) = (0 : Int32)))) = (0 : Int32)) ∧ ((p2 &&& (7 : Int32)) - (2 : Int32)) = (0 : Int32)) ∨ ((own_pi (¬ ((p1 &&& (1 : Int32)) = (0 : Int32)))) = (0 : Int32) ∧ ((p2 &&& (7 : Int32)) - (2 : Int32)) = ((own_ushr p1 (2 : Int32)) &&& (3 : Int32)))))), .unset] [(.int ((p2 &&& (7 : Int32)) - (2 : Int32)))]))
      suffices J8 : Gl p.tables e below PP (T6.setTop (mkF m 85 #[.val (.int p1), .val (.int p2), .val (.long q1), .second, .val (.long q2), .second, .val (.int (own_pi (¬ ((p1 &&& (1 : Int32)) = (0 : Int32))))), .val (.int ((own_ushr p1 (2 : Int32)) &&& (3 : Int32))), .val (.int ((p2 &&& (7 : Int32)) - (2 : Int32))), .val (.ref sa3), .val (.ref b4), .val (.int (own_pi ((¬ ((own_pi (¬ ((p1 &&& (1 : Int32)) = (0 : Int32)))) = (0 : Int32)) ∧ ((p2 &&& (7 : Int32)) - (2 : Int32)) = (0 : Int32)) ∨ ((own_pi (¬ ((p1 &&& (1 : Int32)) = (0 : Int32)))) = (0 : Int32) ∧ ((p2 &&& (7 : Int32)) - (2 : Int32)) = ((own_ushr p1 (2 : Int32)) &&& (3 : Int32)))))), .unset] [(.int (own_pi (((p2 &&& (7 : Int32)) - (2 : Int32)) = (0 : Int32))))])) by
        by_cases hd8 : ((p2 &&& (7 : Int32)) - (2 : Int32)) = (0 : Int32)
        · rw [own_pi_t hd8] at J8
          refine Gl.pre (fun _ k => XS.ifNo X6.here hx rfl (hb hby at_77) rfl ((if0 _ _).trans (teq hd8).2) k) ?_
          show Gl p.tables e below PP (T6.setTop (mkF m 80 #[.val (.int p1), .val (.int p2), .val (.long q1), .second, .val (.long q2), .second, .val (.int (own_pi (¬ ((p1 &&& (1 : Int32)) = (0 : Int32))))), .val (.int ((own_ushr p1 (2 : Int32)) &&& (3 : Int32))), .val (.int ((p2 &&& (7 : Int32)) - (2 : Int32))), .val (.ref sa3), .val (.ref b4), .val (.int (own_pi ((¬ ((own_pi (¬ ((p1 &&& (1 : Int32)) = (0 : Int32)))) = (0 : Int32)) ∧ ((p2 &&& (7 : Int32)) - (2 : Int32)) = (0 : Int32)) ∨ ((own_pi (¬ ((p1 &&& (1 : Int32)) = (0 : Int32)))) = (0 : Int32) ∧ ((p2 &&& (7 : Int32)) - (2 : Int32)) = ((own_ushr p1 (2 : Int32)) &&& (3 : Int32)))))), .unset] []))
          refine Gl.pre (fun _ k => XS.iconst X6.here hx rfl (hb hby at_80) k) ?_
          show Gl p.tables e below PP (T6.setTop (mkF m 81 #[.val (.int p1), .val (.int p2), .val (.long q1), .second, .val (.long q2), .second, .val (.int (own_pi (¬ ((p1 &&& (1 : Int32)) = (0 : Int32))))), .val (.int ((own_ushr p1 (2 : Int32)) &&& (3 : Int32))), .val (.int ((p2 &&& (7 : Int32)) - (2 : Int32))), .val (.ref sa3), .val (.ref b4), .val (.int (own_pi ((¬ ((own_pi (¬ ((p1 &&& (1 : Int32)) = (0 : Int32)))) = (0 : Int32)) ∧ ((p2 &&& (7 : Int32)) - (2 : Int32)) = (0 : Int32)) ∨ ((own_pi (¬ ((p1 &&& (1 : Int32)) = (0 : Int32)))) = (0 : Int32) ∧ ((p2 &&& (7 : Int32)) - (2 : Int32)) = ((own_ushr p1 (2 : Int32)) &&& (3 : Int32)))))), .unset] [(.int (1 : Int32))]))
          refine Gl.pre (fun _ k => XS.goto X6.here hx rfl (pc0 := 81) (pc' := 85) rfl (hb hby at_81) (by decide) (by decide) k) ?_
          show Gl p.tables e below PP (T6.setTop (mkF m 85 #[.val (.int p1), .val (.int p2), .val (.long q1), .second, .val (.long q2), .second, .val (.int (own_pi (¬ ((p1 &&& (1 : Int32)) = (0 : Int32))))), .val (.int ((own_ushr p1 (2 : Int32)) &&& (3 : Int32))), .val (.int ((p2 &&& (7 : Int32)) - (2 : Int32))), .val (.ref sa3), .val (.ref b4), .val (.int (own_pi ((¬ ((own_pi (¬ ((p1 &&& (1 : Int32)) = (0 : Int32)))) = (0 : Int32)) ∧ ((p2 &&& (7 : Int32)) - (2 : Int32)) = (0 : Int32)) ∨ ((own_pi (¬ ((p1 &&& (1 : Int32)) = (0 : Int32)))) = (0 : Int32) ∧ ((p2 &&& (7 : Int32)) - (2 : Int32)) = ((own_ushr p1 (2 : Int32)) &&& (3 : Int32)))))), .unset] [(.int (1 : Int32))]))
          exact J8
        · rw [own_pi_f hd8] at J8
          refine Gl.pre (fun _ k => XS.ifYes X6.here hx rfl (pc0 := 77) (pc' := 84) rfl (hb hby at_77) rfl ((if0 _ _).trans (feq hd8).2) (by decide) (by decide) k) ?_
          show Gl p.tables e below PP (T6.setTop (mkF m 84 #[.val (.int p1), .val (.int p2), .val (.long q1), .second, .val (.long q2), .second, .val (.int (own_pi (¬ ((p1 &&& (1 : Int32)) = (0 : Int32))))), .val (.int ((own_ushr p1 (2 : Int32)) &&& (3 : Int32))), .val (.int ((p2 &&& (7 : Int32)) - (2 : Int32))), .val (.ref sa3), .val (.ref b4), .val (.int (own_pi ((¬ ((own_pi (¬ ((p1 &&& (1 : Int32)) = (0 : Int32)))) = (0 : Int32)) ∧ ((p2 &&& (7 : Int32)) - (2 : Int32)) = (0 : Int32)) ∨ ((own_pi (¬ ((p1 &&& (1 : Int32)) = (0 : Int32)))) = (0 : Int32) ∧ ((p2 &&& (7 : Int32)) - (2 : Int32)) = ((own_ushr p1 (2 : Int32)) &&& (3 : Int32)))))), .unset] []))
          refine Gl.pre (fun _ k => XS.iconst X6.here hx rfl (hb hby at_84) k) ?_
          show Gl p.tables e below PP (T6.setTop (mkF m 85 #[.val (.int p1), .val (.int p2), .val (.long q1), .second, .val (.long q2), .second, .val (.int (own_pi (¬ ((p1 &&& (1 : Int32)) = (0 : Int32))))), .val (.int ((own_ushr p1 (2 : Int32)) &&& (3 : Int32))), .val (.int ((p2 &&& (7 : Int32)) - (2 : Int32))), .val (.ref sa3), .val (.ref b4), .val (.int (own_pi ((¬ ((own_pi (¬ ((p1 &&& (1 : Int32)) = (0 : Int32)))) = (0 : Int32)) ∧ ((p2 &&& (7 : Int32)) - (2 : Int32)) = (0 : Int32)) ∨ ((own_pi (¬ ((p1 &&& (1 : Int32)) = (0 : Int32)))) = (0 : Int32) ∧ ((p2 &&& (7 : Int32)) - (2 : Int32)) = ((own_ushr p1 (2 : Int32)) &&& (3 : Int32)))))), .unset] [(.int (0 : Int32))]))
          exact J8
      show Gl p.tables e below PP (T6.setTop (mkF m 85 #[.val (.int p1), .val (.int p2), .val (.long q1), .second, .val (.long q2), .second, .val (.int (own_pi (¬ ((p1 &&& (1 : Int32)) = (0 : Int32))))), .val (.int ((own_ushr p1 (2 : Int32)) &&& (3 : Int32))), .val (.int ((p2 &&& (7 : Int32)) - (2 : Int32))), .val (.ref sa3), .val (.ref b4), .val (.int (own_pi ((¬ ((own_pi (¬ ((p1 &&& (1 : Int32)) = (0 : Int32)))) = (0 : Int32)) ∧ ((p2 &&& (7 : Int32)) - (2 : Int32)) = (0 : Int32)) ∨ ((own_pi (¬ ((p1 &&& (1 : Int32)) = (0 : Int32)))) = (0 : Int32) ∧ ((p2 &&& (7 : Int32)) - (2 : Int32)) = ((own_ushr p1 (2 : Int32)) &&& (3 : Int32)))))), .unset] [(.int (own_pi (((p2 &&& (7 : Int32)) - (2 : Int32)) = (0 : Int32))))]))
      refine Gl.pre (fun _ k => XS.istore X6.here hx rfl (hb hby at_85) rfl (l' := #[.val (.int p1), .val (.int p2), .val (.long q1), .second, .val (.long q2), .second, .val (.int (own_pi (¬ ((p1 &&& (1 : Int32)) = (0 : Int32))))), .val (.int ((own_ushr p1 (2 : Int32)) &&& (3 : Int32))), .val (.int ((p2 &&& (7 : Int32)) - (2 : Int32))), .val (.ref sa3), .val (.ref b4), .val (.int (own_pi ((¬ ((own_pi (¬ ((p1 &&& (1 : Int32)) = (0 : Int32)))) = (0 : Int32)) ∧ ((p2 &&& (7 : Int32)) - (2 : Int32)) = (0 : Int32)) ∨ ((own_pi (¬ ((p1 &&& (1 : Int32)) = (0 : Int32)))) = (0 : Int32) ∧ ((p2 &&& (7 : Int32)) - (2 : Int32)) = ((own_ushr p1 (2 : Int32)) &&& (3 : Int32)))))), .val (.int (own_pi (((p2 &&& (7 : Int32)) - (2 : Int32)) = (0 : Int32))))]) rfl k) ?_
      show Gl p.tables e below PP (T6.setTop (mkF m 87 #[.val (.int p1), .val (.int p2), .val (.long q1), .second, .val (.long q2), .second, .val (.int (own_pi (¬ ((p1 &&& (1 : Int32)) = (0 : Int32))))), .val (.int ((own_ushr p1 (2 : Int32)) &&& (3 : Int32))), .val (.int ((p2 &&& (7 : Int32)) - (2 : Int32))), .val (.ref sa3), .val (.ref b4), .val (.int (own_pi ((¬ ((own_pi (¬ ((p1 &&& (1 : Int32)) = (0 : Int32)))) = (0 : Int32)) ∧ ((p2 &&& (7 : Int32)) - (2 : Int32)) = (0 : Int32)) ∨ ((own_pi (¬ ((p1 &&& (1 : Int32)) = (0 : Int32)))) = (0 : Int32) ∧ ((p2 &&& (7 : Int32)) - (2 : Int32)) = ((own_ushr p1 (2 : Int32)) &&& (3 : Int32)))))), .val (.int (own_pi (((p2 &&& (7 : Int32)) - (2 : Int32)) = (0 : Int32))))] []))
      refine Gl.pre (fun _ k => XS.goto X6.here hx rfl (pc0 := 87) (pc' := 104) rfl (hb hby at_87) (by decide) (by decide) k) ?_
      show Gl p.tables e below PP (T6.setTop (mkF m 104 #[.val (.int p1), .val (.int p2), .val (.long q1), .second, .val (.long q2), .second, .val (.int (own_pi (¬ ((p1 &&& (1 : Int32)) = (0 : Int32))))), .val (.int ((own_ushr p1 (2 : Int32)) &&& (3 : Int32))), .val (.int ((p2 &&& (7 : Int32)) - (2 : Int32))), .val (.ref sa3), .val (.ref b4), .val (.int (own_pi ((¬ ((own_pi (¬ ((p1 &&& (1 : Int32)) = (0 : Int32)))) = (0 : Int32)) ∧ ((p2 &&& (7 : Int32)) - (2 : Int32)) = (0 : Int32)) ∨ ((own_pi (¬ ((p1 &&& (1 : Int32)) = (0 : Int32)))) = (0 : Int32) ∧ ((p2 &&& (7 : Int32)) - (2 : Int32)) = ((own_ushr p1 (2 : Int32)) &&& (3 : Int32)))))), .val (.int (own_pi (((p2 &&& (7 : Int32)) - (2 : Int32)) = (0 : Int32))))] []))
      refine Gl.pre (fun _ k => XS.iload X6.here hx rfl (hb hby at_104) rfl k) ?_
      show Gl p.tables e below PP (T6.setTop (mkF m 106 #[.val (.int p1), .val (.int p2), .val (.long q1), .second, .val (.long q2), .second, .val (.int (own_pi (¬ ((p1 &&& (1 : Int32)) = (0 : Int32))))), .val (.int ((own_ushr p1 (2 : Int32)) &&& (3 : Int32))), .val (.int ((p2 &&& (7 : Int32)) - (2 : Int32))), .val (.ref sa3), .val (.ref b4), .val (.int (own_pi ((¬ ((own_pi (¬ ((p1 &&& (1 : Int32)) = (0 : Int32)))) = (0 : Int32)) ∧ ((p2 &&& (7 : Int32)) - (2 : Int32)) = (0 : Int32)) ∨ ((own_pi (¬ ((p1 &&& (1 : Int32)) = (0 : Int32)))) = (0 : Int32) ∧ ((p2 &&& (7 : Int32)) - (2 : Int32)) = ((own_ushr p1 (2 : Int32)) &&& (3 : Int32)))))), .val (.int (own_pi (((p2 &&& (7 : Int32)) - (2 : Int32)) = (0 : Int32))))] [(.int (own_pi ((¬ ((own_pi (¬ ((p1 &&& (1 : Int32)) = (0 : Int32)))) = (0 : Int32)) ∧ ((p2 &&& (7 : Int32)) - (2 : Int32)) = (0 : Int32)) ∨ ((own_pi (¬ ((p1 &&& (1 : Int32)) = (0 : Int32)))) = (0 : Int32) ∧ ((p2 &&& (7 : Int32)) - (2 : Int32)) = ((own_ushr p1 (2 : Int32)) &&& (3 : Int32))))))]))
      refine Gl.pre (fun _ k => XS.iload X6.here hx rfl (hb hby at_106) rfl k) ?_
      show Gl p.tables e below PP (T6.setTop (mkF m 108 #[.val (.int p1), .val (.int p2), .val (.long q1), .second, .val (.long q2), .second, .val (.int (own_pi (¬ ((p1 &&& (1 : Int32)) = (0 : Int32))))), .val (.int ((own_ushr p1 (2 : Int32)) &&& (3 : Int32))), .val (.int ((p2 &&& (7 : Int32)) - (2 : Int32))), .val (.ref sa3), .val (.ref b4), .val (.int (own_pi ((¬ ((own_pi (¬ ((p1 &&& (1 : Int32)) = (0 : Int32)))) = (0 : Int32)) ∧ ((p2 &&& (7 : Int32)) - (2 : Int32)) = (0 : Int32)) ∨ ((own_pi (¬ ((p1 &&& (1 : Int32)) = (0 : Int32)))) = (0 : Int32) ∧ ((p2 &&& (7 : Int32)) - (2 : Int32)) = ((own_ushr p1 (2 : Int32)) &&& (3 : Int32)))))), .val (.int (own_pi (((p2 &&& (7 : Int32)) - (2 : Int32)) = (0 : Int32))))] [(.int (own_pi (((p2 &&& (7 : Int32)) - (2 : Int32)) = (0 : Int32)))), (.int (own_pi ((¬ ((own_pi (¬ ((p1 &&& (1 : Int32)) = (0 : Int32)))) = (0 : Int32)) ∧ ((p2 &&& (7 : Int32)) - (2 : Int32)) = (0 : Int32)) ∨ ((own_pi (¬ ((p1 &&& (1 : Int32)) = (0 : Int32)))) = (0 : Int32) ∧ ((p2 &&& (7 : Int32)) - (2 : Int32)) = ((own_ushr p1 (2 : Int32)) &&& (3 : Int32))))))]))
      refine Gl.pre (fun _ k => XS.icmpNo X6.here hx rfl (hb hby at_108) rfl (teq (show (own_pi ((¬ ((own_pi (¬ ((p1 &&& (1 : Int32)) = (0 : Int32)))) = (0 : Int32)) ∧ ((p2 &&& (7 : Int32)) - (2 : Int32)) = (0 : Int32)) ∨ ((own_pi (¬ ((p1 &&& (1 : Int32)) = (0 : Int32)))) = (0 : Int32) ∧ ((p2 &&& (7 : Int32)) - (2 : Int32)) = ((own_ushr p1 (2 : Int32)) &&& (3 : Int32))))) = (own_pi (((p2 &&& (7 : Int32)) - (2 : Int32)) = (0 : Int32))) from (own_pi_eq (by rw [own_pi_t hc7]; exact own_ate1 _ _)))).2 k) ?_
      show Gl p.tables e below PP (T6.setTop (mkF m 111 #[.val (.int p1), .val (.int p2), .val (.long q1), .second, .val (.long q2), .second, .val (.int (own_pi (¬ ((p1 &&& (1 : Int32)) = (0 : Int32))))), .val (.int ((own_ushr p1 (2 : Int32)) &&& (3 : Int32))), .val (.int ((p2 &&& (7 : Int32)) - (2 : Int32))), .val (.ref sa3), .val (.ref b4), .val (.int (own_pi ((¬ ((own_pi (¬ ((p1 &&& (1 : Int32)) = (0 : Int32)))) = (0 : Int32)) ∧ ((p2 &&& (7 : Int32)) - (2 : Int32)) = (0 : Int32)) ∨ ((own_pi (¬ ((p1 &&& (1 : Int32)) = (0 : Int32)))) = (0 : Int32) ∧ ((p2 &&& (7 : Int32)) - (2 : Int32)) = ((own_ushr p1 (2 : Int32)) &&& (3 : Int32)))))), .val (.int (own_pi (((p2 &&& (7 : Int32)) - (2 : Int32)) = (0 : Int32))))] []))
      refine Gl.pre (fun _ k => XS.iconst X6.here hx rfl (hb hby at_111) k) ?_
      show Gl p.tables e below PP (T6.setTop (mkF m 112 #[.val (.int p1), .val (.int p2), .val (.long q1), .second, .val (.long q2), .second, .val (.int (own_pi (¬ ((p1 &&& (1 : Int32)) = (0 : Int32))))), .val (.int ((own_ushr p1 (2 : Int32)) &&& (3 : Int32))), .val (.int ((p2 &&& (7 : Int32)) - (2 : Int32))), .val (.ref sa3), .val (.ref b4), .val (.int (own_pi ((¬ ((own_pi (¬ ((p1 &&& (1 : Int32)) = (0 : Int32)))) = (0 : Int32)) ∧ ((p2 &&& (7 : Int32)) - (2 : Int32)) = (0 : Int32)) ∨ ((own_pi (¬ ((p1 &&& (1 : Int32)) = (0 : Int32)))) = (0 : Int32) ∧ ((p2 &&& (7 : Int32)) - (2 : Int32)) = ((own_ushr p1 (2 : Int32)) &&& (3 : Int32)))))), .val (.int (own_pi (((p2 &&& (7 : Int32)) - (2 : Int32)) = (0 : Int32))))] [(.int (1 : Int32))]))
      refine Gl.pre (fun _ k => XS.goto X6.here hx rfl (pc0 := 112) (pc' := 116) rfl (hb hby at_112) (by decide) (by decide) k) ?_
      show Gl p.tables e below PP (T6.setTop (mkF m 116 #[.val (.int p1), .val (.int p2), .val (.long q1), .second, .val (.long q2), .second, .val (.int (own_pi (¬ ((p1 &&& (1 : Int32)) = (0 : Int32))))), .val (.int ((own_ushr p1 (2 : Int32)) &&& (3 : Int32))), .val (.int ((p2 &&& (7 : Int32)) - (2 : Int32))), .val (.ref sa3), .val (.ref b4), .val (.int (own_pi ((¬ ((own_pi (¬ ((p1 &&& (1 : Int32)) = (0 : Int32)))) = (0 : Int32)) ∧ ((p2 &&& (7 : Int32)) - (2 : Int32)) = (0 : Int32)) ∨ ((own_pi (¬ ((p1 &&& (1 : Int32)) = (0 : Int32)))) = (0 : Int32) ∧ ((p2 &&& (7 : Int32)) - (2 : Int32)) = ((own_ushr p1 (2 : Int32)) &&& (3 : Int32)))))), .val (.int (own_pi (((p2 &&& (7 : Int32)) - (2 : Int32)) = (0 : Int32))))] [(.int (1 : Int32))]))
      rw [hPP]
      refine own_finNW (Q := (Q0 Z p1 p2 q1 q2 cs h0 n0)) (Z := Z) (EL := own_EL) X6 hx hlk hS3 (by rw [e6]; exact hk5) Bd.returns (t := .boolean) (z' := (1 : Int32)) (by simp) (by decide) (hb hby at_116) ?_ (by rw [hh, e6]; exact CR5.trans (CHv.at X6 hZ3 hEL CR5.1)) (by decide) (by decide)
      show Q0 Z p1 p2 q1 q2 cs h0 n0 _ T6.heap _
      rw [e6]
      exact ⟨rfl, N6⟩
    · refine Gl.pre (fun _ k => XS.ifYes X6.here hx rfl (pc0 := 72) (pc' := 90) rfl (hb hby at_72) rfl ((if0 _ _).trans (teq ((own_pi0 (P := ¬ ((p1 &&& (1 : Int32)) = (0 : Int32)))).mpr hc7)).1) (by decide) (by decide) k) ?_
      show Gl p.tables e below PP (T6.setTop (mkF m 90 #[.val (.int p1), .val (.int p2), .val (.long q1), .second, .val (.long q2), .second, .val (.int (own_pi (¬ ((p1 &&& (1 : Int32)) = (0 : Int32))))), .val (.int ((own_ushr p1 (2 : Int32)) &&& (3 : Int32))), .val (.int ((p2 &&& (7 : Int32)) - (2 : Int32))), .val (.ref sa3), .val (.ref b4), .val (.int (own_pi ((¬ ((own_pi (¬ ((p1 &&& (1 : Int32)) = (0 : Int32)))) = (0 : Int32)) ∧ ((p2 &&& (7 : Int32)) - (2 : Int32)) = (0 : Int32)) ∨ ((own_pi (¬ ((p1 &&& (1 : Int32)) = (0 : Int32)))) = (0 : Int32) ∧ ((p2 &&& (7 : Int32)) - (2 : Int32)) = ((own_ushr p1 (2 : Int32)) &&& (3 : Int32)))))), .unset] []))
      refine Gl.pre (fun _ k => XS.iload X6.here hx rfl (hb hby at_90) rfl k) ?_
      show Gl p.tables e below PP (T6.setTop (mkF m 92 #[.val (.int p1), .val (.int p2), .val (.long q1), .second, .val (.long q2), .second, .val (.int (own_pi (¬ ((p1 &&& (1 : Int32)) = (0 : Int32))))), .val (.int ((own_ushr p1 (2 : Int32)) &&& (3 : Int32))), .val (.int ((p2 &&& (7 : Int32)) - (2 : Int32))), .val (.ref sa3), .val (.ref b4), .val (.int (own_pi ((¬ ((own_pi (¬ ((p1 &&& (1 : Int32)) = (0 : Int32)))) = (0 : Int32)) ∧ ((p2 &&& (7 : Int32)) - (2 : Int32)) = (0 : Int32)) ∨ ((own_pi (¬ ((p1 &&& (1 : Int32)) = (0 : Int32)))) = (0 : Int32) ∧ ((p2 &&& (7 : Int32)) - (2 : Int32)) = ((own_ushr p1 (2 : Int32)) &&& (3 : Int32)))))), .unset] [(.int ((p2 &&& (7 : Int32)) - (2 : Int32)))]))
      refine Gl.pre (fun _ k => XS.iload X6.here hx rfl (hb hby at_92) rfl k) ?_
      show Gl p.tables e below PP (T6.setTop (mkF m 94 #[.val (.int p1), .val (.int p2), .val (.long q1), .second, .val (.long q2), .second, .val (.int (own_pi (¬ ((p1 &&& (1 : Int32)) = (0 : Int32))))), .val (.int ((own_ushr p1 (2 : Int32)) &&& (3 : Int32))), .val (.int ((p2 &&& (7 : Int32)) - (2 : Int32))), .val (.ref sa3), .val (.ref b4), .val (.int (own_pi ((¬ ((own_pi (¬ ((p1 &&& (1 : Int32)) = (0 : Int32)))) = (0 : Int32)) ∧ ((p2 &&& (7 : Int32)) - (2 : Int32)) = (0 : Int32)) ∨ ((own_pi (¬ ((p1 &&& (1 : Int32)) = (0 : Int32)))) = (0 : Int32) ∧ ((p2 &&& (7 : Int32)) - (2 : Int32)) = ((own_ushr p1 (2 : Int32)) &&& (3 : Int32)))))), .unset] [(.int ((own_ushr p1 (2 : Int32)) &&& (3 : Int32))), (.int ((p2 &&& (7 : Int32)) - (2 : Int32)))]))
      suffices J9 : Gl p.tables e below PP (T6.setTop (mkF m 102 #[.val (.int p1), .val (.int p2), .val (.long q1), .second, .val (.long q2), .second, .val (.int (own_pi (¬ ((p1 &&& (1 : Int32)) = (0 : Int32))))), .val (.int ((own_ushr p1 (2 : Int32)) &&& (3 : Int32))), .val (.int ((p2 &&& (7 : Int32)) - (2 : Int32))), .val (.ref sa3), .val (.ref b4), .val (.int (own_pi ((¬ ((own_pi (¬ ((p1 &&& (1 : Int32)) = (0 : Int32)))) = (0 : Int32)) ∧ ((p2 &&& (7 : Int32)) - (2 : Int32)) = (0 : Int32)) ∨ ((own_pi (¬ ((p1 &&& (1 : Int32)) = (0 : Int32)))) = (0 : Int32) ∧ ((p2 &&& (7 : Int32)) - (2 : Int32)) = ((own_ushr p1 (2 : Int32)) &&& (3 : Int32)))))), .unset] [(.int (own_pi (((p2 &&& (7 : Int32)) - (2 : Int32)) = ((own_ushr p1 (2 : Int32)) &&& (3 : Int32)))))])) by
        by_cases hd9 : ((p2 &&& (7 : Int32)) - (2 : Int32)) = ((own_ushr p1 (2 : Int32)) &&& (3 : Int32))
        · rw [own_pi_t hd9] at J9
          refine Gl.pre (fun _ k => XS.icmpNo X6.here hx rfl (hb hby at_94) rfl (teq hd9).2 k) ?_
          show Gl p.tables e below PP (T6.setTop (mkF m 97 #[.val (.int p1), .val (.int p2), .val (.long q1), .second, .val (.long q2), .second, .val (.int (own_pi (¬ ((p1 &&& (1 : Int32)) = (0 : Int32))))), .val (.int ((own_ushr p1 (2 : Int32)) &&& (3 : Int32))), .val (.int ((p2 &&& (7 : Int32)) - (2 : Int32))), .val (.ref sa3), .val (.ref b4), .val (.int (own_pi ((¬ ((own_pi (¬ ((p1 &&& (1 : Int32)) = (0 : Int32)))) = (0 : Int32)) ∧ ((p2 &&& (7 : Int32)) - (2 : Int32)) = (0 : Int32)) ∨ ((own_pi (¬ ((p1 &&& (1 : Int32)) = (0 : Int32)))) = (0 : Int32) ∧ ((p2 &&& (7 : Int32)) - (2 : Int32)) = ((own_ushr p1 (2 : Int32)) &&& (3 : Int32)))))), .unset] []))
          refine Gl.pre (fun _ k => XS.iconst X6.here hx rfl (hb hby at_97) k) ?_
          show Gl p.tables e below PP (T6.setTop (mkF m 98 #[.val (.int p1), .val (.int p2), .val (.long q1), .second, .val (.long q2), .second, .val (.int (own_pi (¬ ((p1 &&& (1 : Int32)) = (0 : Int32))))), .val (.int ((own_ushr p1 (2 : Int32)) &&& (3 : Int32))), .val (.int ((p2 &&& (7 : Int32)) - (2 : Int32))), .val (.ref sa3), .val (.ref b4), .val (.int (own_pi ((¬ ((own_pi (¬ ((p1 &&& (1 : Int32)) = (0 : Int32)))) = (0 : Int32)) ∧ ((p2 &&& (7 : Int32)) - (2 : Int32)) = (0 : Int32)) ∨ ((own_pi (¬ ((p1 &&& (1 : Int32)) = (0 : Int32)))) = (0 : Int32) ∧ ((p2 &&& (7 : Int32)) - (2 : Int32)) = ((own_ushr p1 (2 : Int32)) &&& (3 : Int32)))))), .unset] [(.int (1 : Int32))]))
          refine Gl.pre (fun _ k => XS.goto X6.here hx rfl (pc0 := 98) (pc' := 102) rfl (hb hby at_98) (by decide) (by decide) k) ?_
          show Gl p.tables e below PP (T6.setTop (mkF m 102 #[.val (.int p1), .val (.int p2), .val (.long q1), .second, .val (.long q2), .second, .val (.int (own_pi (¬ ((p1 &&& (1 : Int32)) = (0 : Int32))))), .val (.int ((own_ushr p1 (2 : Int32)) &&& (3 : Int32))), .val (.int ((p2 &&& (7 : Int32)) - (2 : Int32))), .val (.ref sa3), .val (.ref b4), .val (.int (own_pi ((¬ ((own_pi (¬ ((p1 &&& (1 : Int32)) = (0 : Int32)))) = (0 : Int32)) ∧ ((p2 &&& (7 : Int32)) - (2 : Int32)) = (0 : Int32)) ∨ ((own_pi (¬ ((p1 &&& (1 : Int32)) = (0 : Int32)))) = (0 : Int32) ∧ ((p2 &&& (7 : Int32)) - (2 : Int32)) = ((own_ushr p1 (2 : Int32)) &&& (3 : Int32)))))), .unset] [(.int (1 : Int32))]))
          exact J9
        · rw [own_pi_f hd9] at J9
          refine Gl.pre (fun _ k => XS.icmpYes X6.here hx rfl (pc0 := 94) (pc' := 101) rfl (hb hby at_94) rfl (feq hd9).2 (by decide) (by decide) k) ?_
          show Gl p.tables e below PP (T6.setTop (mkF m 101 #[.val (.int p1), .val (.int p2), .val (.long q1), .second, .val (.long q2), .second, .val (.int (own_pi (¬ ((p1 &&& (1 : Int32)) = (0 : Int32))))), .val (.int ((own_ushr p1 (2 : Int32)) &&& (3 : Int32))), .val (.int ((p2 &&& (7 : Int32)) - (2 : Int32))), .val (.ref sa3), .val (.ref b4), .val (.int (own_pi ((¬ ((own_pi (¬ ((p1 &&& (1 : Int32)) = (0 : Int32)))) = (0 : Int32)) ∧ ((p2 &&& (7 : Int32)) - (2 : Int32)) = (0 : Int32)) ∨ ((own_pi (¬ ((p1 &&& (1 : Int32)) = (0 : Int32)))) = (0 : Int32) ∧ ((p2 &&& (7 : Int32)) - (2 : Int32)) = ((own_ushr p1 (2 : Int32)) &&& (3 : Int32)))))), .unset] []))
          refine Gl.pre (fun _ k => XS.iconst X6.here hx rfl (hb hby at_101) k) ?_
          show Gl p.tables e below PP (T6.setTop (mkF m 102 #[.val (.int p1), .val (.int p2), .val (.long q1), .second, .val (.long q2), .second, .val (.int (own_pi (¬ ((p1 &&& (1 : Int32)) = (0 : Int32))))), .val (.int ((own_ushr p1 (2 : Int32)) &&& (3 : Int32))), .val (.int ((p2 &&& (7 : Int32)) - (2 : Int32))), .val (.ref sa3), .val (.ref b4), .val (.int (own_pi ((¬ ((own_pi (¬ ((p1 &&& (1 : Int32)) = (0 : Int32)))) = (0 : Int32)) ∧ ((p2 &&& (7 : Int32)) - (2 : Int32)) = (0 : Int32)) ∨ ((own_pi (¬ ((p1 &&& (1 : Int32)) = (0 : Int32)))) = (0 : Int32) ∧ ((p2 &&& (7 : Int32)) - (2 : Int32)) = ((own_ushr p1 (2 : Int32)) &&& (3 : Int32)))))), .unset] [(.int (0 : Int32))]))
          exact J9
      show Gl p.tables e below PP (T6.setTop (mkF m 102 #[.val (.int p1), .val (.int p2), .val (.long q1), .second, .val (.long q2), .second, .val (.int (own_pi (¬ ((p1 &&& (1 : Int32)) = (0 : Int32))))), .val (.int ((own_ushr p1 (2 : Int32)) &&& (3 : Int32))), .val (.int ((p2 &&& (7 : Int32)) - (2 : Int32))), .val (.ref sa3), .val (.ref b4), .val (.int (own_pi ((¬ ((own_pi (¬ ((p1 &&& (1 : Int32)) = (0 : Int32)))) = (0 : Int32)) ∧ ((p2 &&& (7 : Int32)) - (2 : Int32)) = (0 : Int32)) ∨ ((own_pi (¬ ((p1 &&& (1 : Int32)) = (0 : Int32)))) = (0 : Int32) ∧ ((p2 &&& (7 : Int32)) - (2 : Int32)) = ((own_ushr p1 (2 : Int32)) &&& (3 : Int32)))))), .unset] [(.int (own_pi (((p2 &&& (7 : Int32)) - (2 : Int32)) = ((own_ushr p1 (2 : Int32)) &&& (3 : Int32)))))]))
      refine Gl.pre (fun _ k => XS.istore X6.here hx rfl (hb hby at_102) rfl (l' := #[.val (.int p1), .val (.int p2), .val (.long q1), .second, .val (.long q2), .second, .val (.int (own_pi (¬ ((p1 &&& (1 : Int32)) = (0 : Int32))))), .val (.int ((own_ushr p1 (2 : Int32)) &&& (3 : Int32))), .val (.int ((p2 &&& (7 : Int32)) - (2 : Int32))), .val (.ref sa3), .val (.ref b4), .val (.int (own_pi ((¬ ((own_pi (¬ ((p1 &&& (1 : Int32)) = (0 : Int32)))) = (0 : Int32)) ∧ ((p2 &&& (7 : Int32)) - (2 : Int32)) = (0 : Int32)) ∨ ((own_pi (¬ ((p1 &&& (1 : Int32)) = (0 : Int32)))) = (0 : Int32) ∧ ((p2 &&& (7 : Int32)) - (2 : Int32)) = ((own_ushr p1 (2 : Int32)) &&& (3 : Int32)))))), .val (.int (own_pi (((p2 &&& (7 : Int32)) - (2 : Int32)) = ((own_ushr p1 (2 : Int32)) &&& (3 : Int32)))))]) rfl k) ?_
      show Gl p.tables e below PP (T6.setTop (mkF m 104 #[.val (.int p1), .val (.int p2), .val (.long q1), .second, .val (.long q2), .second, .val (.int (own_pi (¬ ((p1 &&& (1 : Int32)) = (0 : Int32))))), .val (.int ((own_ushr p1 (2 : Int32)) &&& (3 : Int32))), .val (.int ((p2 &&& (7 : Int32)) - (2 : Int32))), .val (.ref sa3), .val (.ref b4), .val (.int (own_pi ((¬ ((own_pi (¬ ((p1 &&& (1 : Int32)) = (0 : Int32)))) = (0 : Int32)) ∧ ((p2 &&& (7 : Int32)) - (2 : Int32)) = (0 : Int32)) ∨ ((own_pi (¬ ((p1 &&& (1 : Int32)) = (0 : Int32)))) = (0 : Int32) ∧ ((p2 &&& (7 : Int32)) - (2 : Int32)) = ((own_ushr p1 (2 : Int32)) &&& (3 : Int32)))))), .val (.int (own_pi (((p2 &&& (7 : Int32)) - (2 : Int32)) = ((own_ushr p1 (2 : Int32)) &&& (3 : Int32)))))] []))
      refine Gl.pre (fun _ k => XS.iload X6.here hx rfl (hb hby at_104) rfl k) ?_
      show Gl p.tables e below PP (T6.setTop (mkF m 106 #[.val (.int p1), .val (.int p2), .val (.long q1), .second, .val (.long q2), .second, .val (.int (own_pi (¬ ((p1 &&& (1 : Int32)) = (0 : Int32))))), .val (.int ((own_ushr p1 (2 : Int32)) &&& (3 : Int32))), .val (.int ((p2 &&& (7 : Int32)) - (2 : Int32))), .val (.ref sa3), .val (.ref b4), .val (.int (own_pi ((¬ ((own_pi (¬ ((p1 &&& (1 : Int32)) = (0 : Int32)))) = (0 : Int32)) ∧ ((p2 &&& (7 : Int32)) - (2 : Int32)) = (0 : Int32)) ∨ ((own_pi (¬ ((p1 &&& (1 : Int32)) = (0 : Int32)))) = (0 : Int32) ∧ ((p2 &&& (7 : Int32)) - (2 : Int32)) = ((own_ushr p1 (2 : Int32)) &&& (3 : Int32)))))), .val (.int (own_pi (((p2 &&& (7 : Int32)) - (2 : Int32)) = ((own_ushr p1 (2 : Int32)) &&& (3 : Int32)))))] [(.int (own_pi ((¬ ((own_pi (¬ ((p1 &&& (1 : Int32)) = (0 : Int32)))) = (0 : Int32)) ∧ ((p2 &&& (7 : Int32)) - (2 : Int32)) = (0 : Int32)) ∨ ((own_pi (¬ ((p1 &&& (1 : Int32)) = (0 : Int32)))) = (0 : Int32) ∧ ((p2 &&& (7 : Int32)) - (2 : Int32)) = ((own_ushr p1 (2 : Int32)) &&& (3 : Int32))))))]))
      refine Gl.pre (fun _ k => XS.iload X6.here hx rfl (hb hby at_106) rfl k) ?_
      show Gl p.tables e below PP (T6.setTop (mkF m 108 #[.val (.int p1), .val (.int p2), .val (.long q1), .second, .val (.long q2), .second, .val (.int (own_pi (¬ ((p1 &&& (1 : Int32)) = (0 : Int32))))), .val (.int ((own_ushr p1 (2 : Int32)) &&& (3 : Int32))), .val (.int ((p2 &&& (7 : Int32)) - (2 : Int32))), .val (.ref sa3), .val (.ref b4), .val (.int (own_pi ((¬ ((own_pi (¬ ((p1 &&& (1 : Int32)) = (0 : Int32)))) = (0 : Int32)) ∧ ((p2 &&& (7 : Int32)) - (2 : Int32)) = (0 : Int32)) ∨ ((own_pi (¬ ((p1 &&& (1 : Int32)) = (0 : Int32)))) = (0 : Int32) ∧ ((p2 &&& (7 : Int32)) - (2 : Int32)) = ((own_ushr p1 (2 : Int32)) &&& (3 : Int32)))))), .val (.int (own_pi (((p2 &&& (7 : Int32)) - (2 : Int32)) = ((own_ushr p1 (2 : Int32)) &&& (3 : Int32)))))] [(.int (own_pi (((p2 &&& (7 : Int32)) - (2 : Int32)) = ((own_ushr p1 (2 : Int32)) &&& (3 : Int32))))), (.int (own_pi ((¬ ((own_pi (¬ ((p1 &&& (1 : Int32)) = (0 : Int32)))) = (0 : Int32)) ∧ ((p2 &&& (7 : Int32)) - (2 : Int32)) = (0 : Int32)) ∨ ((own_pi (¬ ((p1 &&& (1 : Int32)) = (0 : Int32)))) = (0 : Int32) ∧ ((p2 &&& (7 : Int32)) - (2 : Int32)) = ((own_ushr p1 (2 : Int32)) &&& (3 : Int32))))))]))
      refine Gl.pre (fun _ k => XS.icmpNo X6.here hx rfl (hb hby at_108) rfl (teq (show (own_pi ((¬ ((own_pi (¬ ((p1 &&& (1 : Int32)) = (0 : Int32)))) = (0 : Int32)) ∧ ((p2 &&& (7 : Int32)) - (2 : Int32)) = (0 : Int32)) ∨ ((own_pi (¬ ((p1 &&& (1 : Int32)) = (0 : Int32)))) = (0 : Int32) ∧ ((p2 &&& (7 : Int32)) - (2 : Int32)) = ((own_ushr p1 (2 : Int32)) &&& (3 : Int32))))) = (own_pi (((p2 &&& (7 : Int32)) - (2 : Int32)) = ((own_ushr p1 (2 : Int32)) &&& (3 : Int32)))) from (own_pi_eq (by rw [own_pi_f hc7]; exact own_ate0 _ _)))).2 k) ?_
      show Gl p.tables e below PP (T6.setTop (mkF m 111 #[.val (.int p1), .val (.int p2), .val (.long q1), .second, .val (.long q2), .second, .val (.int (own_pi (¬ ((p1 &&& (1 : Int32)) = (0 : Int32))))), .val (.int ((own_ushr p1 (2 : Int32)) &&& (3 : Int32))), .val (.int ((p2 &&& (7 : Int32)) - (2 : Int32))), .val (.ref sa3), .val (.ref b4), .val (.int (own_pi ((¬ ((own_pi (¬ ((p1 &&& (1 : Int32)) = (0 : Int32)))) = (0 : Int32)) ∧ ((p2 &&& (7 : Int32)) - (2 : Int32)) = (0 : Int32)) ∨ ((own_pi (¬ ((p1 &&& (1 : Int32)) = (0 : Int32)))) = (0 : Int32) ∧ ((p2 &&& (7 : Int32)) - (2 : Int32)) = ((own_ushr p1 (2 : Int32)) &&& (3 : Int32)))))), .val (.int (own_pi (((p2 &&& (7 : Int32)) - (2 : Int32)) = ((own_ushr p1 (2 : Int32)) &&& (3 : Int32)))))] []))
      refine Gl.pre (fun _ k => XS.iconst X6.here hx rfl (hb hby at_111) k) ?_
      show Gl p.tables e below PP (T6.setTop (mkF m 112 #[.val (.int p1), .val (.int p2), .val (.long q1), .second, .val (.long q2), .second, .val (.int (own_pi (¬ ((p1 &&& (1 : Int32)) = (0 : Int32))))), .val (.int ((own_ushr p1 (2 : Int32)) &&& (3 : Int32))), .val (.int ((p2 &&& (7 : Int32)) - (2 : Int32))), .val (.ref sa3), .val (.ref b4), .val (.int (own_pi ((¬ ((own_pi (¬ ((p1 &&& (1 : Int32)) = (0 : Int32)))) = (0 : Int32)) ∧ ((p2 &&& (7 : Int32)) - (2 : Int32)) = (0 : Int32)) ∨ ((own_pi (¬ ((p1 &&& (1 : Int32)) = (0 : Int32)))) = (0 : Int32) ∧ ((p2 &&& (7 : Int32)) - (2 : Int32)) = ((own_ushr p1 (2 : Int32)) &&& (3 : Int32)))))), .val (.int (own_pi (((p2 &&& (7 : Int32)) - (2 : Int32)) = ((own_ushr p1 (2 : Int32)) &&& (3 : Int32)))))] [(.int (1 : Int32))]))
      refine Gl.pre (fun _ k => XS.goto X6.here hx rfl (pc0 := 112) (pc' := 116) rfl (hb hby at_112) (by decide) (by decide) k) ?_
      show Gl p.tables e below PP (T6.setTop (mkF m 116 #[.val (.int p1), .val (.int p2), .val (.long q1), .second, .val (.long q2), .second, .val (.int (own_pi (¬ ((p1 &&& (1 : Int32)) = (0 : Int32))))), .val (.int ((own_ushr p1 (2 : Int32)) &&& (3 : Int32))), .val (.int ((p2 &&& (7 : Int32)) - (2 : Int32))), .val (.ref sa3), .val (.ref b4), .val (.int (own_pi ((¬ ((own_pi (¬ ((p1 &&& (1 : Int32)) = (0 : Int32)))) = (0 : Int32)) ∧ ((p2 &&& (7 : Int32)) - (2 : Int32)) = (0 : Int32)) ∨ ((own_pi (¬ ((p1 &&& (1 : Int32)) = (0 : Int32)))) = (0 : Int32) ∧ ((p2 &&& (7 : Int32)) - (2 : Int32)) = ((own_ushr p1 (2 : Int32)) &&& (3 : Int32)))))), .val (.int (own_pi (((p2 &&& (7 : Int32)) - (2 : Int32)) = ((own_ushr p1 (2 : Int32)) &&& (3 : Int32)))))] [(.int (1 : Int32))]))
      rw [hPP]
      refine own_finNW (Q := (Q0 Z p1 p2 q1 q2 cs h0 n0)) (Z := Z) (EL := own_EL) X6 hx hlk hS3 (by rw [e6]; exact hk5) Bd.returns (t := .boolean) (z' := (1 : Int32)) (by simp) (by decide) (hb hby at_116) ?_ (by rw [hh, e6]; exact CR5.trans (CHv.at X6 hZ3 hEL CR5.1)) (by decide) (by decide)
      show Q0 Z p1 p2 q1 q2 cs h0 n0 _ T6.heap _
      rw [e6]
      exact ⟨rfl, N6⟩
  · refine Gl.pre (fun _ k => XS.ifNo X0.here hx rfl (hb hby at_23) rfl ((if0 _ _).trans (feq hc2).1) k) ?_
    show Gl p.tables e below PP (s₁.setTop (mkF m 26 #[.val (.int p1), .val (.int p2), .val (.long q1), .second, .val (.long q2), .second, .val (.int (own_pi (¬ ((p1 &&& (1 : Int32)) = (0 : Int32))))), .val (.int ((own_ushr p1 (2 : Int32)) &&& (3 : Int32))), .unset, .unset, .unset, .unset, .unset] []))
    refine Gl.pre (fun _ k => XS.iloadN X0.here hx rfl (hb hby at_26) rfl k) ?_
    show Gl p.tables e below PP (s₁.setTop (mkF m 27 #[.val (.int p1), .val (.int p2), .val (.long q1), .second, .val (.long q2), .second, .val (.int (own_pi (¬ ((p1 &&& (1 : Int32)) = (0 : Int32))))), .val (.int ((own_ushr p1 (2 : Int32)) &&& (3 : Int32))), .unset, .unset, .unset, .unset, .unset] [(.int p2)]))
    refine Gl.pre (fun _ k => XS.goto X0.here hx rfl (pc0 := 27) (pc' := 36) rfl (hb hby at_27) (by decide) (by decide) k) ?_
    show Gl p.tables e below PP (s₁.setTop (mkF m 36 #[.val (.int p1), .val (.int p2), .val (.long q1), .second, .val (.long q2), .second, .val (.int (own_pi (¬ ((p1 &&& (1 : Int32)) = (0 : Int32))))), .val (.int ((own_ushr p1 (2 : Int32)) &&& (3 : Int32))), .unset, .unset, .unset, .unset, .unset] [(.int p2)]))
    refine Gl.pre (fun _ k => XS.istore X0.here hx rfl (hb hby at_36) rfl (l' := #[.val (.int p1), .val (.int p2), .val (.long q1), .second, .val (.long q2), .second, .val (.int (own_pi (¬ ((p1 &&& (1 : Int32)) = (0 : Int32))))), .val (.int ((own_ushr p1 (2 : Int32)) &&& (3 : Int32))), .val (.int p2), .unset, .unset, .unset, .unset]) rfl k) ?_
    show Gl p.tables e below PP (s₁.setTop (mkF m 38 #[.val (.int p1), .val (.int p2), .val (.long q1), .second, .val (.long q2), .second, .val (.int (own_pi (¬ ((p1 &&& (1 : Int32)) = (0 : Int32))))), .val (.int ((own_ushr p1 (2 : Int32)) &&& (3 : Int32))), .val (.int p2), .unset, .unset, .unset, .unset] []))
    refine Gl.pre (fun _ k => XS.iload X0.here hx rfl (hb hby at_38) rfl k) ?_
    show Gl p.tables e below PP (s₁.setTop (mkF m 40 #[.val (.int p1), .val (.int p2), .val (.long q1), .second, .val (.long q2), .second, .val (.int (own_pi (¬ ((p1 &&& (1 : Int32)) = (0 : Int32))))), .val (.int ((own_ushr p1 (2 : Int32)) &&& (3 : Int32))), .val (.int p2), .unset, .unset, .unset, .unset] [(.int ((own_ushr p1 (2 : Int32)) &&& (3 : Int32)))]))
    refine Gl.pre (fun _ k => XS.lloadN X0.here hx rfl (hb hby at_40) rfl k) ?_
    show Gl p.tables e below PP (s₁.setTop (mkF m 41 #[.val (.int p1), .val (.int p2), .val (.long q1), .second, .val (.long q2), .second, .val (.int (own_pi (¬ ((p1 &&& (1 : Int32)) = (0 : Int32))))), .val (.int ((own_ushr p1 (2 : Int32)) &&& (3 : Int32))), .val (.int p2), .unset, .unset, .unset, .unset] [(.long q1), (.int ((own_ushr p1 (2 : Int32)) &&& (3 : Int32)))]))
    obtain ⟨_, _, ⟨T10, L10, k10, n10⟩, -, X10, hS10c, hg10, ⟨Lc10, hQ10, l10, y10, z10, CR10c⟩, st10⟩ := callSS X0 hx (y := (⟨"com/example/rules_for_records/rulesforrecords/regex/InputAtEndPinLaw", "make", "(IJ)Ljava/lang/String;"⟩ : MethodName)) hown0 (mvT hZ0 (hw _ (List.mem_of_getElem? (i := 0) rfl))) (mvT hZ0 (hw _ (List.mem_of_getElem? (i := 1) rfl))) (mvT hZ0 (hw _ (List.mem_of_getElem? (i := 2) rfl))) (mvT hZ0 (hw _ (List.mem_of_getElem? (i := 3) rfl))) (by decide) (own_backH (W := 0) (rm1 l Z a0 hw [] ((own_ushr p1 (2 : Int32)) &&& (3 : Int32)) q1 cs h0 n0 Z0 (own_n3 p1) SBC hcs SAD SHI SLO O_ hEL) hZ0 (hw _ (List.mem_of_getElem? (i := 3) rfl)) (hw _ (List.mem_of_getElem? (i := 2) rfl)) (by decide) (by decide) hEL CR0.1 all0) (g := (mkF m 41 #[.val (.int p1), .val (.int p2), .val (.long q1), .second, .val (.long q2), .second, .val (.int (own_pi (¬ ((p1 &&& (1 : Int32)) = (0 : Int32))))), .val (.int ((own_ushr p1 (2 : Int32)) &&& (3 : Int32))), .val (.int p2), .unset, .unset, .unset, .unset] [(.long q1), (.int ((own_ushr p1 (2 : Int32)) &&& (3 : Int32)))])) rfl (by rw [hml]; rfl) (argsL := [(.int ((own_ushr p1 (2 : Int32)) &&& (3 : Int32))), (.long q1)]) (rest := []) (lenOf pd_11 rfl) rfl (by show 2 * 0 + _ ≤ _; exact Nat.le_of_eq rfl) (hb hby at_41) (fun _ _ => ⟨rfl, e0, (by decide : 0 + 6 ≤ _), (by decide : 0 + 16 ≤ _)⟩)
    dsimp only [Pt.U, Pt.locs, Pt.cells, Pt.slots] at X10 l10 y10 z10 st10 hQ10 hS10c hg10 CR10c
    subst l10 y10 z10
    have X10 : Stand p l e room_1 (s.setVm T10.vm) m #[(.int p1), (.int p2), (.long q1), (.long q2)] below meth c T10 _ _ _ := X10
    have hS10 := foldS hS0 (Nat.le_trans hk0 (Nat.le_of_eq (congrArg Array.size e0.symm))) hS10c hg10
    have hZ10 : Z.Warmed39 (s.setVm T10.vm).vm := State.Warmed39.trans (t := s.setVm s.vm) hZ0 hS10c.1
    have hown10 : (s.setVm T10.vm).vm.findClass "com/example/rules_for_records/rulesforrecords/regex/InputAtEndPinLaw" = some m.cls := by rw [show (s.setVm T10.vm).vm = T10.vm from rfl, hS10c.1.alike.findClass]; exact hown0
    have CR10 := CR0.trans CR10c
    obtain ⟨sa10, rfl, N10q, hz10, K10, Ea10, vb10, ys10, co10, hco10, hln10, hne10, Fv10, Fc10, Vs10⟩ := hQ10
    have N10 := Fr.app N0 N10q
    refine Gl.pre (fun _ k => st10.trans k) ?_
    have g_sa10 : n0 ≤ sa10 := Nat.le_trans Z0 hz10
    have Sf_sa100 := Safe.new (Z := Z) (EL := own_EL) (vm := T10.vm) hz10
    have O_ := O_.keep K10 all0
    have Z10 : n0 ≤ T10.heap.size := Nat.le_trans Z0 K10.1
    have E_sa10 := Ea10
    have F_value_sa10 := Fv10
    have F_coder_sa10 := Fc10
    have V_vb10 := Vs10
    have own_ne_vb10_sa10 := hne10
    have own_ne_sa10_vb10 := hne10.symm
    show Gl p.tables e below PP (T10.setTop (mkF m 44 #[.val (.int p1), .val (.int p2), .val (.long q1), .second, .val (.long q2), .second, .val (.int (own_pi (¬ ((p1 &&& (1 : Int32)) = (0 : Int32))))), .val (.int ((own_ushr p1 (2 : Int32)) &&& (3 : Int32))), .val (.int p2), .unset, .unset, .unset, .unset] [(.ref sa10)]))
    refine Gl.pre (fun _ k => XS.astore X10.here hx rfl (hb hby at_44) rfl rfl (l' := #[.val (.int p1), .val (.int p2), .val (.long q1), .second, .val (.long q2), .second, .val (.int (own_pi (¬ ((p1 &&& (1 : Int32)) = (0 : Int32))))), .val (.int ((own_ushr p1 (2 : Int32)) &&& (3 : Int32))), .val (.int p2), .val (.ref sa10), .unset, .unset, .unset]) rfl k) ?_
    show Gl p.tables e below PP (T10.setTop (mkF m 46 #[.val (.int p1), .val (.int p2), .val (.long q1), .second, .val (.long q2), .second, .val (.int (own_pi (¬ ((p1 &&& (1 : Int32)) = (0 : Int32))))), .val (.int ((own_ushr p1 (2 : Int32)) &&& (3 : Int32))), .val (.int p2), .val (.ref sa10), .unset, .unset, .unset] []))
    obtain ⟨T11, h11, X11, e11, E11, A11, D11, -, st11⟩ := newO X10 hx hZ10 hown10 (hw _ (List.mem_of_getElem? (i := 26) rfl)) (hw _ (List.mem_of_getElem? (i := 27) rfl)) (hw _ (List.mem_of_getElem? (i := 28) rfl)) rfl (g := (mkF m 46 #[.val (.int p1), .val (.int p2), .val (.long q1), .second, .val (.long q2), .second, .val (.int (own_pi (¬ ((p1 &&& (1 : Int32)) = (0 : Int32))))), .val (.int ((own_ushr p1 (2 : Int32)) &&& (3 : Int32))), .val (.int p2), .val (.ref sa10), .unset, .unset, .unset] [])) rfl (hb hby at_46) (by decide) (by decide)
    obtain ⟨b11, g11⟩ : ∃ z, z = T10.heap.size := ⟨_, rfl⟩
    rw [← g11] at A11 D11 st11
    refine Gl.pre (fun _ k => st11 _ k) ?_
    have own_ne_sa10_b11 : sa10 ≠ b11 := by have q := E_sa10.lt; rw [g11]; exact Nat.ne_of_lt q
    have own_ne_b11_sa10 : b11 ≠ sa10 := own_ne_sa10_b11.symm
    have own_ne_vb10_b11 : vb10 ≠ b11 := by have q := V_vb10.lt; rw [g11]; exact Nat.ne_of_lt q
    have own_ne_b11_vb10 : b11 ≠ vb10 := own_ne_vb10_b11.symm
    have g_b11 : n0 ≤ b11 := Nat.le_trans Z10 (Nat.le_of_eq g11.symm)
    have Sf_b11 := Safe.ext E11 CR10.1 (Safe.new (Z := Z) (EL := own_EL) (vm := T10.vm) (Nat.le_of_eq g11.symm))
    have CR11 := CR10.trans (CHr.ext E11 CR10.1)
    have O_ := O_.ext E11
    have E_sa10 := E_sa10.ext E11
    have F_value_sa10 := F_value_sa10.ext E11
    have F_coder_sa10 := F_coder_sa10.ext E11
    have V_vb10 := V_vb10.ext E11
    have Z11 : n0 ≤ h11.size := Nat.le_trans Z10 E11.1
    have hk11 := Nat.le_trans (Nat.le_refl _) E11.1
    have E_b11 := A11
    have F_text_b11 : Fld Z h11 b11 "com/example/rules_for_records/rulesforrecords/regex/Input" "text" "Ljava/lang/String;" .null := D11 (Or.inr (hw _ (List.mem_of_getElem? (i := 34) rfl))) (ty := (.object "java/lang/String")) (by decide)
    have F_length_b11 : Fld Z h11 b11 "com/example/rules_for_records/rulesforrecords/regex/Input" "length" "I" (.int (0 : Int32)) := D11 (Or.inr (hw _ (List.mem_of_getElem? (i := 47) rfl))) (ty := .int) (by decide)
    have F_stepsLeft_b11 : Fld Z h11 b11 "com/example/rules_for_records/rulesforrecords/regex/Input" "stepsLeft" "J" (.long (0 : Int64)) := D11 (Or.inl (hw _ (List.mem_of_getElem? (i := 49) rfl))) (ty := .long) (by decide)
    show Gl p.tables e below PP (T11.setTop (mkF m 49 #[.val (.int p1), .val (.int p2), .val (.long q1), .second, .val (.long q2), .second, .val (.int (own_pi (¬ ((p1 &&& (1 : Int32)) = (0 : Int32))))), .val (.int ((own_ushr p1 (2 : Int32)) &&& (3 : Int32))), .val (.int p2), .val (.ref sa10), .unset, .unset, .unset] [(.ref b11)]))
    refine Gl.pre (fun _ k => XS.dup X11.here hx rfl (hb hby at_49) rfl rfl k) ?_
    show Gl p.tables e below PP (T11.setTop (mkF m 50 #[.val (.int p1), .val (.int p2), .val (.long q1), .second, .val (.long q2), .second, .val (.int (own_pi (¬ ((p1 &&& (1 : Int32)) = (0 : Int32))))), .val (.int ((own_ushr p1 (2 : Int32)) &&& (3 : Int32))), .val (.int p2), .val (.ref sa10), .unset, .unset, .unset] [(.ref b11), (.ref b11)]))
    refine Gl.pre (fun _ k => XS.aload X11.here hx rfl (hb hby at_50) rfl rfl k) ?_
    show Gl p.tables e below PP (T11.setTop (mkF m 52 #[.val (.int p1), .val (.int p2), .val (.long q1), .second, .val (.long q2), .second, .val (.int (own_pi (¬ ((p1 &&& (1 : Int32)) = (0 : Int32))))), .val (.int ((own_ushr p1 (2 : Int32)) &&& (3 : Int32))), .val (.int p2), .val (.ref sa10), .unset, .unset, .unset] [(.ref sa10), (.ref b11), (.ref b11)]))
    refine Gl.pre (fun _ k => XS.lload X11.here hx rfl (hb hby at_52) rfl k) ?_
    show Gl p.tables e below PP (T11.setTop (mkF m 54 #[.val (.int p1), .val (.int p2), .val (.long q1), .second, .val (.long q2), .second, .val (.int (own_pi (¬ ((p1 &&& (1 : Int32)) = (0 : Int32))))), .val (.int ((own_ushr p1 (2 : Int32)) &&& (3 : Int32))), .val (.int p2), .val (.ref sa10), .unset, .unset, .unset] [(.long q2), (.ref sa10), (.ref b11), (.ref b11)]))
    obtain ⟨_, _, ⟨T12, L12, k12, n12⟩, -, X12, ⟨Lc12, hQ12, l12, y12, z12⟩, st12⟩ := X11.specialBack hx (y := (⟨"com/example/rules_for_records/rulesforrecords/regex/Input", "<init>", "(Ljava/lang/String;J)V"⟩ : MethodName)) rfl hown10 (mvT hZ10 (hw _ (List.mem_of_getElem? (i := 29) rfl))) (mvT hZ10 (hw _ (List.mem_of_getElem? (i := 30) rfl))) (mvT hZ10 (hw _ (List.mem_of_getElem? (i := 31) rfl))) (by decide) (backOf (W := 1) (rm5 l Z a0 hw [] b11 sa10 q2 ((own_ushr p1 (2 : Int32)) &&& (3 : Int32)) cs co10 vb10 ys10 h11 n0 Z11 E_b11 F_text_b11 F_length_b11 F_stepsLeft_b11 g_b11 E_sa10 F_value_sa10 F_coder_sa10 V_vb10 hco10 hln10 own_ne_b11_sa10 own_ne_sa10_b11 own_ne_b11_vb10 own_ne_vb10_b11 SBC hcs O_) hZ10 (hw _ (List.mem_of_getElem? (i := 31) rfl)) (hw _ (List.mem_of_getElem? (i := 28) rfl)) (by decide) (by decide)) (g := (mkF m 54 #[.val (.int p1), .val (.int p2), .val (.long q1), .second, .val (.long q2), .second, .val (.int (own_pi (¬ ((p1 &&& (1 : Int32)) = (0 : Int32))))), .val (.int ((own_ushr p1 (2 : Int32)) &&& (3 : Int32))), .val (.int p2), .val (.ref sa10), .unset, .unset, .unset] [(.long q2), (.ref sa10), (.ref b11), (.ref b11)])) rfl (by rw [hml]; rfl) (Steps.refl _) (a := b11) (argsL := [(.ref sa10), (.long q2)]) (rest := [(.ref b11)]) (lenOf pd_12 rfl) rfl (by show 2 * 0 + _ ≤ _; exact Nat.le_of_eq rfl) (hb hby at_54) (fun _ _ => ⟨rfl, e11, (by decide : 7 + 0 ≤ _), (by decide : 19 + 0 ≤ _)⟩)
    dsimp only [Pt.U, Pt.locs, Pt.cells, Pt.slots] at X12 l12 y12 z12 st12 hQ12
    subst l12 y12 z12
    obtain ⟨rfl, N12q, K12, Fl12⟩ := hQ12
    have N12 := Fr.app N10 N12q
    refine Gl.pre (fun _ k => st12.trans k) ?_
    have hs12 : ∀ x ∈ [b11], Safe Z own_EL _ _ x := (allS Sf_b11 all0)
    have Sf_b11 := Safe.keep K12 hs12 CR11.1 Sf_b11
    have CR12 := CR11.trans (CHr.keep K12 hs12 CR11.1)
    have O_ := O_.keep K12 (allS g_b11 all0)
    have E_sa10 := E_sa10.keep K12
    have F_value_sa10 := F_value_sa10.keep K12 (ninS (own_ne_sa10_b11) nin0)
    have F_coder_sa10 := F_coder_sa10.keep K12 (ninS (own_ne_sa10_b11) nin0)
    have V_vb10 := V_vb10.keep K12 (ninS (own_ne_vb10_b11) nin0)
    have E_b11 := E_b11.keep K12
    have hk12 := Nat.le_trans hk11 K12.1
    have Z12 : n0 ≤ T12.heap.size := Nat.le_trans Z11 K12.1
    have F_length_b11 := Fl12
    show Gl p.tables e below PP (T12.setTop (mkF m 57 #[.val (.int p1), .val (.int p2), .val (.long q1), .second, .val (.long q2), .second, .val (.int (own_pi (¬ ((p1 &&& (1 : Int32)) = (0 : Int32))))), .val (.int ((own_ushr p1 (2 : Int32)) &&& (3 : Int32))), .val (.int p2), .val (.ref sa10), .unset, .unset, .unset] [(.ref b11)]))
    refine Gl.pre (fun _ k => XS.astore X12.here hx rfl (hb hby at_57) rfl rfl (l' := #[.val (.int p1), .val (.int p2), .val (.long q1), .second, .val (.long q2), .second, .val (.int (own_pi (¬ ((p1 &&& (1 : Int32)) = (0 : Int32))))), .val (.int ((own_ushr p1 (2 : Int32)) &&& (3 : Int32))), .val (.int p2), .val (.ref sa10), .val (.ref b11), .unset, .unset]) rfl k) ?_
    show Gl p.tables e below PP (T12.setTop (mkF m 59 #[.val (.int p1), .val (.int p2), .val (.long q1), .second, .val (.long q2), .second, .val (.int (own_pi (¬ ((p1 &&& (1 : Int32)) = (0 : Int32))))), .val (.int ((own_ushr p1 (2 : Int32)) &&& (3 : Int32))), .val (.int p2), .val (.ref sa10), .val (.ref b11), .unset, .unset] []))
    refine Gl.pre (fun _ k => XS.aload X12.here hx rfl (hb hby at_59) rfl rfl k) ?_
    show Gl p.tables e below PP (T12.setTop (mkF m 61 #[.val (.int p1), .val (.int p2), .val (.long q1), .second, .val (.long q2), .second, .val (.int (own_pi (¬ ((p1 &&& (1 : Int32)) = (0 : Int32))))), .val (.int ((own_ushr p1 (2 : Int32)) &&& (3 : Int32))), .val (.int p2), .val (.ref sa10), .val (.ref b11), .unset, .unset] [(.ref b11)]))
    refine Gl.pre (fun _ k => XS.iload X12.here hx rfl (hb hby at_61) rfl k) ?_
    show Gl p.tables e below PP (T12.setTop (mkF m 63 #[.val (.int p1), .val (.int p2), .val (.long q1), .second, .val (.long q2), .second, .val (.int (own_pi (¬ ((p1 &&& (1 : Int32)) = (0 : Int32))))), .val (.int ((own_ushr p1 (2 : Int32)) &&& (3 : Int32))), .val (.int p2), .val (.ref sa10), .val (.ref b11), .unset, .unset] [(.int p2), (.ref b11)]))
    refine Gl.pre (fun _ k => XS.iload X12.here hx rfl (hb hby at_63) rfl k) ?_
    show Gl p.tables e below PP (T12.setTop (mkF m 65 #[.val (.int p1), .val (.int p2), .val (.long q1), .second, .val (.long q2), .second, .val (.int (own_pi (¬ ((p1 &&& (1 : Int32)) = (0 : Int32))))), .val (.int ((own_ushr p1 (2 : Int32)) &&& (3 : Int32))), .val (.int p2), .val (.ref sa10), .val (.ref b11), .unset, .unset] [(.int (own_pi (¬ ((p1 &&& (1 : Int32)) = (0 : Int32))))), (.int p2), (.ref b11)]))
    obtain ⟨cq13, kq13, qa13, qb13, qc13⟩ := isOf hZ10 rfl E_b11
    obtain ⟨_, _, ⟨T13, L13, k13, n13⟩, -, X13, ⟨Lc13, hQ13, l13, y13, z13⟩, st13⟩ := X12.virtualBack hx (y := (⟨"com/example/rules_for_records/rulesforrecords/regex/Input", "atEnd", "(IZ)Z"⟩ : MethodName)) (z := (⟨"com/example/rules_for_records/rulesforrecords/regex/Input", "atEnd", "(IZ)Z"⟩ : MethodName)) hown10 (mvT hZ10 (hw _ (List.mem_of_getElem? (i := 50) rfl))) (mvT hZ10 (hw _ (List.mem_of_getElem? (i := 51) rfl))) (notFace_of_selects (args := #[]) (mvT hZ10 (hw _ (List.mem_of_getElem? (i := 53) rfl)))) (mvT hZ10 (hw _ (List.mem_of_getElem? (i := 53) rfl))) (mvT hZ10 (hw _ (List.mem_of_getElem? (i := 52) rfl))) (by decide) (backOf (W := 0) (rm8 l Z a0 hw [] b11 p2 (own_pi (¬ ((p1 &&& (1 : Int32)) = (0 : Int32)))) ((own_ushr p1 (2 : Int32)) &&& (3 : Int32)) T12.heap n0 Z12 F_length_b11) hZ10 (hw _ (List.mem_of_getElem? (i := 54) rfl)) (hw _ (List.mem_of_getElem? (i := 28) rfl)) (by decide) (by decide)) qa13 qc13 (g := (mkF m 65 #[.val (.int p1), .val (.int p2), .val (.long q1), .second, .val (.long q2), .second, .val (.int (own_pi (¬ ((p1 &&& (1 : Int32)) = (0 : Int32))))), .val (.int ((own_ushr p1 (2 : Int32)) &&& (3 : Int32))), .val (.int p2), .val (.ref sa10), .val (.ref b11), .unset, .unset] [(.int (own_pi (¬ ((p1 &&& (1 : Int32)) = (0 : Int32))))), (.int p2), (.ref b11)])) rfl (by rw [hml]; rfl) (Steps.refl _) (argsL := [(.int p2), (.int (own_pi (¬ ((p1 &&& (1 : Int32)) = (0 : Int32)))))]) (rest := []) (lenOf pd_13 rfl) rfl (by show 2 * 0 + _ ≤ _; exact Nat.le_of_eq rfl) (hb hby at_65) (fun _ _ => ⟨rfl, rfl, (by decide : 7 + 0 ≤ _), (by decide : 19 + 0 ≤ _)⟩)
    dsimp only [Pt.U, Pt.locs, Pt.cells, Pt.slots] at X13 l13 y13 z13 st13 hQ13
    subst l13 y13 z13
    obtain ⟨rfl, N13q, e13⟩ := hQ13
    have N13 := Fr.app N12 N13q
    refine Gl.pre (fun _ k => st13.trans k) ?_
    show Gl p.tables e below PP (T13.setTop (mkF m 68 #[.val (.int p1), .val (.int p2), .val (.long q1), .second, .val (.long q2), .second, .val (.int (own_pi (¬ ((p1 &&& (1 : Int32)) = (0 : Int32))))), .val (.int ((own_ushr p1 (2 : Int32)) &&& (3 : Int32))), .val (.int p2), .val (.ref sa10), .val (.ref b11), .unset, .unset] [(.int (own_pi ((¬ ((own_pi (¬ ((p1 &&& (1 : Int32)) = (0 : Int32)))) = (0 : Int32)) ∧ p2 = (0 : Int32)) ∨ ((own_pi (¬ ((p1 &&& (1 : Int32)) = (0 : Int32)))) = (0 : Int32) ∧ p2 = ((own_ushr p1 (2 : Int32)) &&& (3 : Int32))))))]))
    refine Gl.pre (fun _ k => XS.istore X13.here hx rfl (hb hby at_68) rfl (l' := #[.val (.int p1), .val (.int p2), .val (.long q1), .second, .val (.long q2), .second, .val (.int (own_pi (¬ ((p1 &&& (1 : Int32)) = (0 : Int32))))), .val (.int ((own_ushr p1 (2 : Int32)) &&& (3 : Int32))), .val (.int p2), .val (.ref sa10), .val (.ref b11), .val (.int (own_pi ((¬ ((own_pi (¬ ((p1 &&& (1 : Int32)) = (0 : Int32)))) = (0 : Int32)) ∧ p2 = (0 : Int32)) ∨ ((own_pi (¬ ((p1 &&& (1 : Int32)) = (0 : Int32)))) = (0 : Int32) ∧ p2 = ((own_ushr p1 (2 : Int32)) &&& (3 : Int32)))))), .unset]) rfl k) ?_
    show Gl p.tables e below PP (T13.setTop (mkF m 70 #[.val (.int p1), .val (.int p2), .val (.long q1), .second, .val (.long q2), .second, .val (.int (own_pi (¬ ((p1 &&& (1 : Int32)) = (0 : Int32))))), .val (.int ((own_ushr p1 (2 : Int32)) &&& (3 : Int32))), .val (.int p2), .val (.ref sa10), .val (.ref b11), .val (.int (own_pi ((¬ ((own_pi (¬ ((p1 &&& (1 : Int32)) = (0 : Int32)))) = (0 : Int32)) ∧ p2 = (0 : Int32)) ∨ ((own_pi (¬ ((p1 &&& (1 : Int32)) = (0 : Int32)))) = (0 : Int32) ∧ p2 = ((own_ushr p1 (2 : Int32)) &&& (3 : Int32)))))), .unset] []))
    refine Gl.pre (fun _ k => XS.iload X13.here hx rfl (hb hby at_70) rfl k) ?_
    show Gl p.tables e below PP (T13.setTop (mkF m 72 #[.val (.int p1), .val (.int p2), .val (.long q1), .second, .val (.long q2), .second, .val (.int (own_pi (¬ ((p1 &&& (1 : Int32)) = (0 : Int32))))), .val (.int ((own_ushr p1 (2 : Int32)) &&& (3 : Int32))), .val (.int p2), .val (.ref sa10), .val (.ref b11), .val (.int (own_pi ((¬ ((own_pi (¬ ((p1 &&& (1 : Int32)) = (0 : Int32)))) = (0 : Int32)) ∧ p2 = (0 : Int32)) ∨ ((own_pi (¬ ((p1 &&& (1 : Int32)) = (0 : Int32)))) = (0 : Int32) ∧ p2 = ((own_ushr p1 (2 : Int32)) &&& (3 : Int32)))))), .unset] [(.int (own_pi (¬ ((p1 &&& (1 : Int32)) = (0 : Int32)))))]))
    by_cases hc14 : ¬ ((p1 &&& (1 : Int32)) = (0 : Int32))
    · refine Gl.pre (fun _ k => XS.ifNo X13.here hx rfl (hb hby at_72) rfl ((if0 _ _).trans (feq (fun q => (own_pi0 (P := ¬ ((p1 &&& (1 : Int32)) = (0 : Int32)))).mp q hc14)).1) k) ?_
      show Gl p.tables e below PP (T13.setTop (mkF m 75 #[.val (.int p1), .val (.int p2), .val (.long q1), .second, .val (.long q2), .second, .val (.int (own_pi (¬ ((p1 &&& (1 : Int32)) = (0 : Int32))))), .val (.int ((own_ushr p1 (2 : Int32)) &&& (3 : Int32))), .val (.int p2), .val (.ref sa10), .val (.ref b11), .val (.int (own_pi ((¬ ((own_pi (¬ ((p1 &&& (1 : Int32)) = (0 : Int32)))) = (0 : Int32)) ∧ p2 = (0 : Int32)) ∨ ((own_pi (¬ ((p1 &&& (1 : Int32)) = (0 : Int32)))) = (0 : Int32) ∧ p2 = ((own_ushr p1 (2 : Int32)) &&& (3 : Int32)))))), .unset] []))
      refine Gl.pre (fun _ k => XS.iload X13.here hx rfl (hb hby at_75) rfl k) ?_
      show Gl p.tables e below PP (T13.setTop (mkF m 77 #[.val (.int p1), .val (.int p2), .val (.long q1), .second, .val (.long q2), .second, .val (.int (own_pi (¬ ((p1 &&& (1 : Int32)) = (0 : Int32))))), .val (.int ((own_ushr p1 (2 : Int32)) &&& (3 : Int32))), .val (.int p2), .val (.ref sa10), .val (.ref b11), .val (.int (own_pi ((¬ ((own_pi (¬ ((p1 &&& (1 : Int32)) = (0 : Int32)))) = (0 : Int32)) ∧ p2 = (0 : Int32)) ∨ ((own_pi (¬ ((p1 &&& (1 : Int32)) = (0 : Int32)))) = (0 : Int32) ∧ p2 = ((own_ushr p1 (2 : Int32)) &&& (3 : Int32)))))), .unset] [(.int p2)]))
      suffices J15 : Gl p.tables e below PP (T13.setTop (mkF m 85 #[.val (.int p1), .val (.int p2), .val (.long q1), .second, .val (.long q2), .second, .val (.int (own_pi (¬ ((p1 &&& (1 : Int32)) = (0 : Int32))))), .val (.int ((own_ushr p1 (2 : Int32)) &&& (3 : Int32))), .val (.int p2), .val (.ref sa10), .val (.ref b11), .val (.int (own_pi ((¬ ((own_pi (¬ ((p1 &&& (1 : Int32)) = (0 : Int32)))) = (0 : Int32)) ∧ p2 = (0 : Int32)) ∨ ((own_pi (¬ ((p1 &&& (1 : Int32)) = (0 : Int32)))) = (0 : Int32) ∧ p2 = ((own_ushr p1 (2 : Int32)) &&& (3 : Int32)))))), .unset] [(.int (own_pi (p2 = (0 : Int32))))])) by
        by_cases hd15 : p2 = (0 : Int32)
        · rw [own_pi_t hd15] at J15
          refine Gl.pre (fun _ k => XS.ifNo X13.here hx rfl (hb hby at_77) rfl ((if0 _ _).trans (teq hd15).2) k) ?_
          show Gl p.tables e below PP (T13.setTop (mkF m 80 #[.val (.int p1), .val (.int p2), .val (.long q1), .second, .val (.long q2), .second, .val (.int (own_pi (¬ ((p1 &&& (1 : Int32)) = (0 : Int32))))), .val (.int ((own_ushr p1 (2 : Int32)) &&& (3 : Int32))), .val (.int p2), .val (.ref sa10), .val (.ref b11), .val (.int (own_pi ((¬ ((own_pi (¬ ((p1 &&& (1 : Int32)) = (0 : Int32)))) = (0 : Int32)) ∧ p2 = (0 : Int32)) ∨ ((own_pi (¬ ((p1 &&& (1 : Int32)) = (0 : Int32)))) = (0 : Int32) ∧ p2 = ((own_ushr p1 (2 : Int32)) &&& (3 : Int32)))))), .unset] []))
          refine Gl.pre (fun _ k => XS.iconst X13.here hx rfl (hb hby at_80) k) ?_
          show Gl p.tables e below PP (T13.setTop (mkF m 81 #[.val (.int p1), .val (.int p2), .val (.long q1), .second, .val (.long q2), .second, .val (.int (own_pi (¬ ((p1 &&& (1 : Int32)) = (0 : Int32))))), .val (.int ((own_ushr p1 (2 : Int32)) &&& (3 : Int32))), .val (.int p2), .val (.ref sa10), .val (.ref b11), .val (.int (own_pi ((¬ ((own_pi (¬ ((p1 &&& (1 : Int32)) = (0 : Int32)))) = (0 : Int32)) ∧ p2 = (0 : Int32)) ∨ ((own_pi (¬ ((p1 &&& (1 : Int32)) = (0 : Int32)))) = (0 : Int32) ∧ p2 = ((own_ushr p1 (2 : Int32)) &&& (3 : Int32)))))), .unset] [(.int (1 : Int32))]))
          refine Gl.pre (fun _ k => XS.goto X13.here hx rfl (pc0 := 81) (pc' := 85) rfl (hb hby at_81) (by decide) (by decide) k) ?_
          show Gl p.tables e below PP (T13.setTop (mkF m 85 #[.val (.int p1), .val (.int p2), .val (.long q1), .second, .val (.long q2), .second, .val (.int (own_pi (¬ ((p1 &&& (1 : Int32)) = (0 : Int32))))), .val (.int ((own_ushr p1 (2 : Int32)) &&& (3 : Int32))), .val (.int p2), .val (.ref sa10), .val (.ref b11), .val (.int (own_pi ((¬ ((own_pi (¬ ((p1 &&& (1 : Int32)) = (0 : Int32)))) = (0 : Int32)) ∧ p2 = (0 : Int32)) ∨ ((own_pi (¬ ((p1 &&& (1 : Int32)) = (0 : Int32)))) = (0 : Int32) ∧ p2 = ((own_ushr p1 (2 : Int32)) &&& (3 : Int32)))))), .unset] [(.int (1 : Int32))]))
          exact J15
        · rw [own_pi_f hd15] at J15
          refine Gl.pre (fun _ k => XS.ifYes X13.here hx rfl (pc0 := 77) (pc' := 84) rfl (hb hby at_77) rfl ((if0 _ _).trans (feq hd15).2) (by decide) (by decide) k) ?_
          show Gl p.tables e below PP (T13.setTop (mkF m 84 #[.val (.int p1), .val (.int p2), .val (.long q1), .second, .val (.long q2), .second, .val (.int (own_pi (¬ ((p1 &&& (1 : Int32)) = (0 : Int32))))), .val (.int ((own_ushr p1 (2 : Int32)) &&& (3 : Int32))), .val (.int p2), .val (.ref sa10), .val (.ref b11), .val (.int (own_pi ((¬ ((own_pi (¬ ((p1 &&& (1 : Int32)) = (0 : Int32)))) = (0 : Int32)) ∧ p2 = (0 : Int32)) ∨ ((own_pi (¬ ((p1 &&& (1 : Int32)) = (0 : Int32)))) = (0 : Int32) ∧ p2 = ((own_ushr p1 (2 : Int32)) &&& (3 : Int32)))))), .unset] []))
          refine Gl.pre (fun _ k => XS.iconst X13.here hx rfl (hb hby at_84) k) ?_
          show Gl p.tables e below PP (T13.setTop (mkF m 85 #[.val (.int p1), .val (.int p2), .val (.long q1), .second, .val (.long q2), .second, .val (.int (own_pi (¬ ((p1 &&& (1 : Int32)) = (0 : Int32))))), .val (.int ((own_ushr p1 (2 : Int32)) &&& (3 : Int32))), .val (.int p2), .val (.ref sa10), .val (.ref b11), .val (.int (own_pi ((¬ ((own_pi (¬ ((p1 &&& (1 : Int32)) = (0 : Int32)))) = (0 : Int32)) ∧ p2 = (0 : Int32)) ∨ ((own_pi (¬ ((p1 &&& (1 : Int32)) = (0 : Int32)))) = (0 : Int32) ∧ p2 = ((own_ushr p1 (2 : Int32)) &&& (3 : Int32)))))), .unset] [(.int (0 : Int32))]))
          exact J15
      show Gl p.tables e below PP (T13.setTop (mkF m 85 #[.val (.int p1), .val (.int p2), .val (.long q1), .second, .val (.long q2), .second, .val (.int (own_pi (¬ ((p1 &&& (1 : Int32)) = (0 : Int32))))), .val (.int ((own_ushr p1 (2 : Int32)) &&& (3 : Int32))), .val (.int p2), .val (.ref sa10), .val (.ref b11), .val (.int (own_pi ((¬ ((own_pi (¬ ((p1 &&& (1 : Int32)) = (0 : Int32)))) = (0 : Int32)) ∧ p2 = (0 : Int32)) ∨ ((own_pi (¬ ((p1 &&& (1 : Int32)) = (0 : Int32)))) = (0 : Int32) ∧ p2 = ((own_ushr p1 (2 : Int32)) &&& (3 : Int32)))))), .unset] [(.int (own_pi (p2 = (0 : Int32))))]))
      refine Gl.pre (fun _ k => XS.istore X13.here hx rfl (hb hby at_85) rfl (l' := #[.val (.int p1), .val (.int p2), .val (.long q1), .second, .val (.long q2), .second, .val (.int (own_pi (¬ ((p1 &&& (1 : Int32)) = (0 : Int32))))), .val (.int ((own_ushr p1 (2 : Int32)) &&& (3 : Int32))), .val (.int p2), .val (.ref sa10), .val (.ref b11), .val (.int (own_pi ((¬ ((own_pi (¬ ((p1 &&& (1 : Int32)) = (0 : Int32)))) = (0 : Int32)) ∧ p2 = (0 : Int32)) ∨ ((own_pi (¬ ((p1 &&& (1 : Int32)) = (0 : Int32)))) = (0 : Int32) ∧ p2 = ((own_ushr p1 (2 : Int32)) &&& (3 : Int32)))))), .val (.int (own_pi (p2 = (0 : Int32))))]) rfl k) ?_
      show Gl p.tables e below PP (T13.setTop (mkF m 87 #[.val (.int p1), .val (.int p2), .val (.long q1), .second, .val (.long q2), .second, .val (.int (own_pi (¬ ((p1 &&& (1 : Int32)) = (0 : Int32))))), .val (.int ((own_ushr p1 (2 : Int32)) &&& (3 : Int32))), .val (.int p2), .val (.ref sa10), .val (.ref b11), .val (.int (own_pi ((¬ ((own_pi (¬ ((p1 &&& (1 : Int32)) = (0 : Int32)))) = (0 : Int32)) ∧ p2 = (0 : Int32)) ∨ ((own_pi (¬ ((p1 &&& (1 : Int32)) = (0 : Int32)))) = (0 : Int32) ∧ p2 = ((own_ushr p1 (2 : Int32)) &&& (3 : Int32)))))), .val (.int (own_pi (p2 = (0 : Int32))))] []))
      refine Gl.pre (fun _ k => XS.goto X13.here hx rfl (pc0 := 87) (pc' := 104) rfl (hb hby at_87) (by decide) (by decide) k) ?_
      show Gl p.tables e below PP (T13.setTop (mkF m 104 #[.val (.int p1), .val (.int p2), .val (.long q1), .second, .val (.long q2), .second, .val (.int (own_pi (¬ ((p1 &&& (1 : Int32)) = (0 : Int32))))), .val (.int ((own_ushr p1 (2 : Int32)) &&& (3 : Int32))), .val (.int p2), .val (.ref sa10), .val (.ref b11), .val (.int (own_pi ((¬ ((own_pi (¬ ((p1 &&& (1 : Int32)) = (0 : Int32)))) = (0 : Int32)) ∧ p2 = (0 : Int32)) ∨ ((own_pi (¬ ((p1 &&& (1 : Int32)) = (0 : Int32)))) = (0 : Int32) ∧ p2 = ((own_ushr p1 (2 : Int32)) &&& (3 : Int32)))))), .val (.int (own_pi (p2 = (0 : Int32))))] []))
      refine Gl.pre (fun _ k => XS.iload X13.here hx rfl (hb hby at_104) rfl k) ?_
      show Gl p.tables e below PP (T13.setTop (mkF m 106 #[.val (.int p1), .val (.int p2), .val (.long q1), .second, .val (.long q2), .second, .val (.int (own_pi (¬ ((p1 &&& (1 : Int32)) = (0 : Int32))))), .val (.int ((own_ushr p1 (2 : Int32)) &&& (3 : Int32))), .val (.int p2), .val (.ref sa10), .val (.ref b11), .val (.int (own_pi ((¬ ((own_pi (¬ ((p1 &&& (1 : Int32)) = (0 : Int32)))) = (0 : Int32)) ∧ p2 = (0 : Int32)) ∨ ((own_pi (¬ ((p1 &&& (1 : Int32)) = (0 : Int32)))) = (0 : Int32) ∧ p2 = ((own_ushr p1 (2 : Int32)) &&& (3 : Int32)))))), .val (.int (own_pi (p2 = (0 : Int32))))] [(.int (own_pi ((¬ ((own_pi (¬ ((p1 &&& (1 : Int32)) = (0 : Int32)))) = (0 : Int32)) ∧ p2 = (0 : Int32)) ∨ ((own_pi (¬ ((p1 &&& (1 : Int32)) = (0 : Int32)))) = (0 : Int32) ∧ p2 = ((own_ushr p1 (2 : Int32)) &&& (3 : Int32))))))]))
      refine Gl.pre (fun _ k => XS.iload X13.here hx rfl (hb hby at_106) rfl k) ?_
      show Gl p.tables e below PP (T13.setTop (mkF m 108 #[.val (.int p1), .val (.int p2), .val (.long q1), .second, .val (.long q2), .second, .val (.int (own_pi (¬ ((p1 &&& (1 : Int32)) = (0 : Int32))))), .val (.int ((own_ushr p1 (2 : Int32)) &&& (3 : Int32))), .val (.int p2), .val (.ref sa10), .val (.ref b11), .val (.int (own_pi ((¬ ((own_pi (¬ ((p1 &&& (1 : Int32)) = (0 : Int32)))) = (0 : Int32)) ∧ p2 = (0 : Int32)) ∨ ((own_pi (¬ ((p1 &&& (1 : Int32)) = (0 : Int32)))) = (0 : Int32) ∧ p2 = ((own_ushr p1 (2 : Int32)) &&& (3 : Int32)))))), .val (.int (own_pi (p2 = (0 : Int32))))] [(.int (own_pi (p2 = (0 : Int32)))), (.int (own_pi ((¬ ((own_pi (¬ ((p1 &&& (1 : Int32)) = (0 : Int32)))) = (0 : Int32)) ∧ p2 = (0 : Int32)) ∨ ((own_pi (¬ ((p1 &&& (1 : Int32)) = (0 : Int32)))) = (0 : Int32) ∧ p2 = ((own_ushr p1 (2 : Int32)) &&& (3 : Int32))))))]))
      refine Gl.pre (fun _ k => XS.icmpNo X13.here hx rfl (hb hby at_108) rfl (teq (show (own_pi ((¬ ((own_pi (¬ ((p1 &&& (1 : Int32)) = (0 : Int32)))) = (0 : Int32)) ∧ p2 = (0 : Int32)) ∨ ((own_pi (¬ ((p1 &&& (1 : Int32)) = (0 : Int32)))) = (0 : Int32) ∧ p2 = ((own_ushr p1 (2 : Int32)) &&& (3 : Int32))))) = (own_pi (p2 = (0 : Int32))) from (own_pi_eq (by rw [own_pi_t hc14]; exact own_ate1 _ _)))).2 k) ?_
      show Gl p.tables e below PP (T13.setTop (mkF m 111 #[.val (.int p1), .val (.int p2), .val (.long q1), .second, .val (.long q2), .second, .val (.int (own_pi (¬ ((p1 &&& (1 : Int32)) = (0 : Int32))))), .val (.int ((own_ushr p1 (2 : Int32)) &&& (3 : Int32))), .val (.int p2), .val (.ref sa10), .val (.ref b11), .val (.int (own_pi ((¬ ((own_pi (¬ ((p1 &&& (1 : Int32)) = (0 : Int32)))) = (0 : Int32)) ∧ p2 = (0 : Int32)) ∨ ((own_pi (¬ ((p1 &&& (1 : Int32)) = (0 : Int32)))) = (0 : Int32) ∧ p2 = ((own_ushr p1 (2 : Int32)) &&& (3 : Int32)))))), .val (.int (own_pi (p2 = (0 : Int32))))] []))
      refine Gl.pre (fun _ k => XS.iconst X13.here hx rfl (hb hby at_111) k) ?_
      show Gl p.tables e below PP (T13.setTop (mkF m 112 #[.val (.int p1), .val (.int p2), .val (.long q1), .second, .val (.long q2), .second, .val (.int (own_pi (¬ ((p1 &&& (1 : Int32)) = (0 : Int32))))), .val (.int ((own_ushr p1 (2 : Int32)) &&& (3 : Int32))), .val (.int p2), .val (.ref sa10), .val (.ref b11), .val (.int (own_pi ((¬ ((own_pi (¬ ((p1 &&& (1 : Int32)) = (0 : Int32)))) = (0 : Int32)) ∧ p2 = (0 : Int32)) ∨ ((own_pi (¬ ((p1 &&& (1 : Int32)) = (0 : Int32)))) = (0 : Int32) ∧ p2 = ((own_ushr p1 (2 : Int32)) &&& (3 : Int32)))))), .val (.int (own_pi (p2 = (0 : Int32))))] [(.int (1 : Int32))]))
      refine Gl.pre (fun _ k => XS.goto X13.here hx rfl (pc0 := 112) (pc' := 116) rfl (hb hby at_112) (by decide) (by decide) k) ?_
      show Gl p.tables e below PP (T13.setTop (mkF m 116 #[.val (.int p1), .val (.int p2), .val (.long q1), .second, .val (.long q2), .second, .val (.int (own_pi (¬ ((p1 &&& (1 : Int32)) = (0 : Int32))))), .val (.int ((own_ushr p1 (2 : Int32)) &&& (3 : Int32))), .val (.int p2), .val (.ref sa10), .val (.ref b11), .val (.int (own_pi ((¬ ((own_pi (¬ ((p1 &&& (1 : Int32)) = (0 : Int32)))) = (0 : Int32)) ∧ p2 = (0 : Int32)) ∨ ((own_pi (¬ ((p1 &&& (1 : Int32)) = (0 : Int32)))) = (0 : Int32) ∧ p2 = ((own_ushr p1 (2 : Int32)) &&& (3 : Int32)))))), .val (.int (own_pi (p2 = (0 : Int32))))] [(.int (1 : Int32))]))
      rw [hPP]
      refine own_finNW (Q := (Q0 Z p1 p2 q1 q2 cs h0 n0)) (Z := Z) (EL := own_EL) X13 hx hlk hS10 (by rw [e13]; exact hk12) Bd.returns (t := .boolean) (z' := (1 : Int32)) (by simp) (by decide) (hb hby at_116) ?_ (by rw [hh, e13]; exact CR12.trans (CHv.at X13 hZ10 hEL CR12.1)) (by decide) (by decide)
      show Q0 Z p1 p2 q1 q2 cs h0 n0 _ T13.heap _
      rw [e13]
      exact ⟨rfl, N13⟩
    · refine Gl.pre (fun _ k => XS.ifYes X13.here hx rfl (pc0 := 72) (pc' := 90) rfl (hb hby at_72) rfl ((if0 _ _).trans (teq ((own_pi0 (P := ¬ ((p1 &&& (1 : Int32)) = (0 : Int32)))).mpr hc14)).1) (by decide) (by decide) k) ?_
      show Gl p.tables e below PP (T13.setTop (mkF m 90 #[.val (.int p1), .val (.int p2), .val (.long q1), .second, .val (.long q2), .second, .val (.int (own_pi (¬ ((p1 &&& (1 : Int32)) = (0 : Int32))))), .val (.int ((own_ushr p1 (2 : Int32)) &&& (3 : Int32))), .val (.int p2), .val (.ref sa10), .val (.ref b11), .val (.int (own_pi ((¬ ((own_pi (¬ ((p1 &&& (1 : Int32)) = (0 : Int32)))) = (0 : Int32)) ∧ p2 = (0 : Int32)) ∨ ((own_pi (¬ ((p1 &&& (1 : Int32)) = (0 : Int32)))) = (0 : Int32) ∧ p2 = ((own_ushr p1 (2 : Int32)) &&& (3 : Int32)))))), .unset] []))
      refine Gl.pre (fun _ k => XS.iload X13.here hx rfl (hb hby at_90) rfl k) ?_
      show Gl p.tables e below PP (T13.setTop (mkF m 92 #[.val (.int p1), .val (.int p2), .val (.long q1), .second, .val (.long q2), .second, .val (.int (own_pi (¬ ((p1 &&& (1 : Int32)) = (0 : Int32))))), .val (.int ((own_ushr p1 (2 : Int32)) &&& (3 : Int32))), .val (.int p2), .val (.ref sa10), .val (.ref b11), .val (.int (own_pi ((¬ ((own_pi (¬ ((p1 &&& (1 : Int32)) = (0 : Int32)))) = (0 : Int32)) ∧ p2 = (0 : Int32)) ∨ ((own_pi (¬ ((p1 &&& (1 : Int32)) = (0 : Int32)))) = (0 : Int32) ∧ p2 = ((own_ushr p1 (2 : Int32)) &&& (3 : Int32)))))), .unset] [(.int p2)]))
      refine Gl.pre (fun _ k => XS.iload X13.here hx rfl (hb hby at_92) rfl k) ?_
      show Gl p.tables e below PP (T13.setTop (mkF m 94 #[.val (.int p1), .val (.int p2), .val (.long q1), .second, .val (.long q2), .second, .val (.int (own_pi (¬ ((p1 &&& (1 : Int32)) = (0 : Int32))))), .val (.int ((own_ushr p1 (2 : Int32)) &&& (3 : Int32))), .val (.int p2), .val (.ref sa10), .val (.ref b11), .val (.int (own_pi ((¬ ((own_pi (¬ ((p1 &&& (1 : Int32)) = (0 : Int32)))) = (0 : Int32)) ∧ p2 = (0 : Int32)) ∨ ((own_pi (¬ ((p1 &&& (1 : Int32)) = (0 : Int32)))) = (0 : Int32) ∧ p2 = ((own_ushr p1 (2 : Int32)) &&& (3 : Int32)))))), .unset] [(.int ((own_ushr p1 (2 : Int32)) &&& (3 : Int32))), (.int p2)]))
      suffices J16 : Gl p.tables e below PP (T13.setTop (mkF m 102 #[.val (.int p1), .val (.int p2), .val (.long q1), .second, .val (.long q2), .second, .val (.int (own_pi (¬ ((p1 &&& (1 : Int32)) = (0 : Int32))))), .val (.int ((own_ushr p1 (2 : Int32)) &&& (3 : Int32))), .val (.int p2), .val (.ref sa10), .val (.ref b11), .val (.int (own_pi ((¬ ((own_pi (¬ ((p1 &&& (1 : Int32)) = (0 : Int32)))) = (0 : Int32)) ∧ p2 = (0 : Int32)) ∨ ((own_pi (¬ ((p1 &&& (1 : Int32)) = (0 : Int32)))) = (0 : Int32) ∧ p2 = ((own_ushr p1 (2 : Int32)) &&& (3 : Int32)))))), .unset] [(.int (own_pi (p2 = ((own_ushr p1 (2 : Int32)) &&& (3 : Int32)))))])) by
        by_cases hd16 : p2 = ((own_ushr p1 (2 : Int32)) &&& (3 : Int32))
        · rw [own_pi_t hd16] at J16
          refine Gl.pre (fun _ k => XS.icmpNo X13.here hx rfl (hb hby at_94) rfl (teq hd16).2 k) ?_
          show Gl p.tables e below PP (T13.setTop (mkF m 97 #[.val (.int p1), .val (.int p2), .val (.long q1), .second, .val (.long q2), .second, .val (.int (own_pi (¬ ((p1 &&& (1 : Int32)) = (0 : Int32))))), .val (.int ((own_ushr p1 (2 : Int32)) &&& (3 : Int32))), .val (.int p2), .val (.ref sa10), .val (.ref b11), .val (.int (own_pi ((¬ ((own_pi (¬ ((p1 &&& (1 : Int32)) = (0 : Int32)))) = (0 : Int32)) ∧ p2 = (0 : Int32)) ∨ ((own_pi (¬ ((p1 &&& (1 : Int32)) = (0 : Int32)))) = (0 : Int32) ∧ p2 = ((own_ushr p1 (2 : Int32)) &&& (3 : Int32)))))), .unset] []))
          refine Gl.pre (fun _ k => XS.iconst X13.here hx rfl (hb hby at_97) k) ?_
          show Gl p.tables e below PP (T13.setTop (mkF m 98 #[.val (.int p1), .val (.int p2), .val (.long q1), .second, .val (.long q2), .second, .val (.int (own_pi (¬ ((p1 &&& (1 : Int32)) = (0 : Int32))))), .val (.int ((own_ushr p1 (2 : Int32)) &&& (3 : Int32))), .val (.int p2), .val (.ref sa10), .val (.ref b11), .val (.int (own_pi ((¬ ((own_pi (¬ ((p1 &&& (1 : Int32)) = (0 : Int32)))) = (0 : Int32)) ∧ p2 = (0 : Int32)) ∨ ((own_pi (¬ ((p1 &&& (1 : Int32)) = (0 : Int32)))) = (0 : Int32) ∧ p2 = ((own_ushr p1 (2 : Int32)) &&& (3 : Int32)))))), .unset] [(.int (1 : Int32))]))
          refine Gl.pre (fun _ k => XS.goto X13.here hx rfl (pc0 := 98) (pc' := 102) rfl (hb hby at_98) (by decide) (by decide) k) ?_
          show Gl p.tables e below PP (T13.setTop (mkF m 102 #[.val (.int p1), .val (.int p2), .val (.long q1), .second, .val (.long q2), .second, .val (.int (own_pi (¬ ((p1 &&& (1 : Int32)) = (0 : Int32))))), .val (.int ((own_ushr p1 (2 : Int32)) &&& (3 : Int32))), .val (.int p2), .val (.ref sa10), .val (.ref b11), .val (.int (own_pi ((¬ ((own_pi (¬ ((p1 &&& (1 : Int32)) = (0 : Int32)))) = (0 : Int32)) ∧ p2 = (0 : Int32)) ∨ ((own_pi (¬ ((p1 &&& (1 : Int32)) = (0 : Int32)))) = (0 : Int32) ∧ p2 = ((own_ushr p1 (2 : Int32)) &&& (3 : Int32)))))), .unset] [(.int (1 : Int32))]))
          exact J16
        · rw [own_pi_f hd16] at J16
          refine Gl.pre (fun _ k => XS.icmpYes X13.here hx rfl (pc0 := 94) (pc' := 101) rfl (hb hby at_94) rfl (feq hd16).2 (by decide) (by decide) k) ?_
          show Gl p.tables e below PP (T13.setTop (mkF m 101 #[.val (.int p1), .val (.int p2), .val (.long q1), .second, .val (.long q2), .second, .val (.int (own_pi (¬ ((p1 &&& (1 : Int32)) = (0 : Int32))))), .val (.int ((own_ushr p1 (2 : Int32)) &&& (3 : Int32))), .val (.int p2), .val (.ref sa10), .val (.ref b11), .val (.int (own_pi ((¬ ((own_pi (¬ ((p1 &&& (1 : Int32)) = (0 : Int32)))) = (0 : Int32)) ∧ p2 = (0 : Int32)) ∨ ((own_pi (¬ ((p1 &&& (1 : Int32)) = (0 : Int32)))) = (0 : Int32) ∧ p2 = ((own_ushr p1 (2 : Int32)) &&& (3 : Int32)))))), .unset] []))
          refine Gl.pre (fun _ k => XS.iconst X13.here hx rfl (hb hby at_101) k) ?_
          show Gl p.tables e below PP (T13.setTop (mkF m 102 #[.val (.int p1), .val (.int p2), .val (.long q1), .second, .val (.long q2), .second, .val (.int (own_pi (¬ ((p1 &&& (1 : Int32)) = (0 : Int32))))), .val (.int ((own_ushr p1 (2 : Int32)) &&& (3 : Int32))), .val (.int p2), .val (.ref sa10), .val (.ref b11), .val (.int (own_pi ((¬ ((own_pi (¬ ((p1 &&& (1 : Int32)) = (0 : Int32)))) = (0 : Int32)) ∧ p2 = (0 : Int32)) ∨ ((own_pi (¬ ((p1 &&& (1 : Int32)) = (0 : Int32)))) = (0 : Int32) ∧ p2 = ((own_ushr p1 (2 : Int32)) &&& (3 : Int32)))))), .unset] [(.int (0 : Int32))]))
          exact J16
      show Gl p.tables e below PP (T13.setTop (mkF m 102 #[.val (.int p1), .val (.int p2), .val (.long q1), .second, .val (.long q2), .second, .val (.int (own_pi (¬ ((p1 &&& (1 : Int32)) = (0 : Int32))))), .val (.int ((own_ushr p1 (2 : Int32)) &&& (3 : Int32))), .val (.int p2), .val (.ref sa10), .val (.ref b11), .val (.int (own_pi ((¬ ((own_pi (¬ ((p1 &&& (1 : Int32)) = (0 : Int32)))) = (0 : Int32)) ∧ p2 = (0 : Int32)) ∨ ((own_pi (¬ ((p1 &&& (1 : Int32)) = (0 : Int32)))) = (0 : Int32) ∧ p2 = ((own_ushr p1 (2 : Int32)) &&& (3 : Int32)))))), .unset] [(.int (own_pi (p2 = ((own_ushr p1 (2 : Int32)) &&& (3 : Int32)))))]))
      refine Gl.pre (fun _ k => XS.istore X13.here hx rfl (hb hby at_102) rfl (l' := #[.val (.int p1), .val (.int p2), .val (.long q1), .second, .val (.long q2), .second, .val (.int (own_pi (¬ ((p1 &&& (1 : Int32)) = (0 : Int32))))), .val (.int ((own_ushr p1 (2 : Int32)) &&& (3 : Int32))), .val (.int p2), .val (.ref sa10), .val (.ref b11), .val (.int (own_pi ((¬ ((own_pi (¬ ((p1 &&& (1 : Int32)) = (0 : Int32)))) = (0 : Int32)) ∧ p2 = (0 : Int32)) ∨ ((own_pi (¬ ((p1 &&& (1 : Int32)) = (0 : Int32)))) = (0 : Int32) ∧ p2 = ((own_ushr p1 (2 : Int32)) &&& (3 : Int32)))))), .val (.int (own_pi (p2 = ((own_ushr p1 (2 : Int32)) &&& (3 : Int32)))))]) rfl k) ?_
      show Gl p.tables e below PP (T13.setTop (mkF m 104 #[.val (.int p1), .val (.int p2), .val (.long q1), .second, .val (.long q2), .second, .val (.int (own_pi (¬ ((p1 &&& (1 : Int32)) = (0 : Int32))))), .val (.int ((own_ushr p1 (2 : Int32)) &&& (3 : Int32))), .val (.int p2), .val (.ref sa10), .val (.ref b11), .val (.int (own_pi ((¬ ((own_pi (¬ ((p1 &&& (1 : Int32)) = (0 : Int32)))) = (0 : Int32)) ∧ p2 = (0 : Int32)) ∨ ((own_pi (¬ ((p1 &&& (1 : Int32)) = (0 : Int32)))) = (0 : Int32) ∧ p2 = ((own_ushr p1 (2 : Int32)) &&& (3 : Int32)))))), .val (.int (own_pi (p2 = ((own_ushr p1 (2 : Int32)) &&& (3 : Int32)))))] []))
      refine Gl.pre (fun _ k => XS.iload X13.here hx rfl (hb hby at_104) rfl k) ?_
      show Gl p.tables e below PP (T13.setTop (mkF m 106 #[.val (.int p1), .val (.int p2), .val (.long q1), .second, .val (.long q2), .second, .val (.int (own_pi (¬ ((p1 &&& (1 : Int32)) = (0 : Int32))))), .val (.int ((own_ushr p1 (2 : Int32)) &&& (3 : Int32))), .val (.int p2), .val (.ref sa10), .val (.ref b11), .val (.int (own_pi ((¬ ((own_pi (¬ ((p1 &&& (1 : Int32)) = (0 : Int32)))) = (0 : Int32)) ∧ p2 = (0 : Int32)) ∨ ((own_pi (¬ ((p1 &&& (1 : Int32)) = (0 : Int32)))) = (0 : Int32) ∧ p2 = ((own_ushr p1 (2 : Int32)) &&& (3 : Int32)))))), .val (.int (own_pi (p2 = ((own_ushr p1 (2 : Int32)) &&& (3 : Int32)))))] [(.int (own_pi ((¬ ((own_pi (¬ ((p1 &&& (1 : Int32)) = (0 : Int32)))) = (0 : Int32)) ∧ p2 = (0 : Int32)) ∨ ((own_pi (¬ ((p1 &&& (1 : Int32)) = (0 : Int32)))) = (0 : Int32) ∧ p2 = ((own_ushr p1 (2 : Int32)) &&& (3 : Int32))))))]))
      refine Gl.pre (fun _ k => XS.iload X13.here hx rfl (hb hby at_106) rfl k) ?_
      show Gl p.tables e below PP (T13.setTop (mkF m 108 #[.val (.int p1), .val (.int p2), .val (.long q1), .second, .val (.long q2), .second, .val (.int (own_pi (¬ ((p1 &&& (1 : Int32)) = (0 : Int32))))), .val (.int ((own_ushr p1 (2 : Int32)) &&& (3 : Int32))), .val (.int p2), .val (.ref sa10), .val (.ref b11), .val (.int (own_pi ((¬ ((own_pi (¬ ((p1 &&& (1 : Int32)) = (0 : Int32)))) = (0 : Int32)) ∧ p2 = (0 : Int32)) ∨ ((own_pi (¬ ((p1 &&& (1 : Int32)) = (0 : Int32)))) = (0 : Int32) ∧ p2 = ((own_ushr p1 (2 : Int32)) &&& (3 : Int32)))))), .val (.int (own_pi (p2 = ((own_ushr p1 (2 : Int32)) &&& (3 : Int32)))))] [(.int (own_pi (p2 = ((own_ushr p1 (2 : Int32)) &&& (3 : Int32))))), (.int (own_pi ((¬ ((own_pi (¬ ((p1 &&& (1 : Int32)) = (0 : Int32)))) = (0 : Int32)) ∧ p2 = (0 : Int32)) ∨ ((own_pi (¬ ((p1 &&& (1 : Int32)) = (0 : Int32)))) = (0 : Int32) ∧ p2 = ((own_ushr p1 (2 : Int32)) &&& (3 : Int32))))))]))
      refine Gl.pre (fun _ k => XS.icmpNo X13.here hx rfl (hb hby at_108) rfl (teq (show (own_pi ((¬ ((own_pi (¬ ((p1 &&& (1 : Int32)) = (0 : Int32)))) = (0 : Int32)) ∧ p2 = (0 : Int32)) ∨ ((own_pi (¬ ((p1 &&& (1 : Int32)) = (0 : Int32)))) = (0 : Int32) ∧ p2 = ((own_ushr p1 (2 : Int32)) &&& (3 : Int32))))) = (own_pi (p2 = ((own_ushr p1 (2 : Int32)) &&& (3 : Int32)))) from (own_pi_eq (by rw [own_pi_f hc14]; exact own_ate0 _ _)))).2 k) ?_
      show Gl p.tables e below PP (T13.setTop (mkF m 111 #[.val (.int p1), .val (.int p2), .val (.long q1), .second, .val (.long q2), .second, .val (.int (own_pi (¬ ((p1 &&& (1 : Int32)) = (0 : Int32))))), .val (.int ((own_ushr p1 (2 : Int32)) &&& (3 : Int32))), .val (.int p2), .val (.ref sa10), .val (.ref b11), .val (.int (own_pi ((¬ ((own_pi (¬ ((p1 &&& (1 : Int32)) = (0 : Int32)))) = (0 : Int32)) ∧ p2 = (0 : Int32)) ∨ ((own_pi (¬ ((p1 &&& (1 : Int32)) = (0 : Int32)))) = (0 : Int32) ∧ p2 = ((own_ushr p1 (2 : Int32)) &&& (3 : Int32)))))), .val (.int (own_pi (p2 = ((own_ushr p1 (2 : Int32)) &&& (3 : Int32)))))] []))
      refine Gl.pre (fun _ k => XS.iconst X13.here hx rfl (hb hby at_111) k) ?_
      show Gl p.tables e below PP (T13.setTop (mkF m 112 #[.val (.int p1), .val (.int p2), .val (.long q1), .second, .val (.long q2), .second, .val (.int (own_pi (¬ ((p1 &&& (1 : Int32)) = (0 : Int32))))), .val (.int ((own_ushr p1 (2 : Int32)) &&& (3 : Int32))), .val (.int p2), .val (.ref sa10), .val (.ref b11), .val (.int (own_pi ((¬ ((own_pi (¬ ((p1 &&& (1 : Int32)) = (0 : Int32)))) = (0 : Int32)) ∧ p2 = (0 : Int32)) ∨ ((own_pi (¬ ((p1 &&& (1 : Int32)) = (0 : Int32)))) = (0 : Int32) ∧ p2 = ((own_ushr p1 (2 : Int32)) &&& (3 : Int32)))))), .val (.int (own_pi (p2 = ((own_ushr p1 (2 : Int32)) &&& (3 : Int32)))))] [(.int (1 : Int32))]))
      refine Gl.pre (fun _ k => XS.goto X13.here hx rfl (pc0 := 112) (pc' := 116) rfl (hb hby at_112) (by decide) (by decide) k) ?_
      show Gl p.tables e below PP (T13.setTop (mkF m 116 #[.val (.int p1), .val (.int p2), .val (.long q1), .second, .val (.long q2), .second, .val (.int (own_pi (¬ ((p1 &&& (1 : Int32)) = (0 : Int32))))), .val (.int ((own_ushr p1 (2 : Int32)) &&& (3 : Int32))), .val (.int p2), .val (.ref sa10), .val (.ref b11), .val (.int (own_pi ((¬ ((own_pi (¬ ((p1 &&& (1 : Int32)) = (0 : Int32)))) = (0 : Int32)) ∧ p2 = (0 : Int32)) ∨ ((own_pi (¬ ((p1 &&& (1 : Int32)) = (0 : Int32)))) = (0 : Int32) ∧ p2 = ((own_ushr p1 (2 : Int32)) &&& (3 : Int32)))))), .val (.int (own_pi (p2 = ((own_ushr p1 (2 : Int32)) &&& (3 : Int32)))))] [(.int (1 : Int32))]))
      rw [hPP]
      refine own_finNW (Q := (Q0 Z p1 p2 q1 q2 cs h0 n0)) (Z := Z) (EL := own_EL) X13 hx hlk hS10 (by rw [e13]; exact hk12) Bd.returns (t := .boolean) (z' := (1 : Int32)) (by simp) (by decide) (hb hby at_116) ?_ (by rw [hh, e13]; exact CR12.trans (CHv.at X13 hZ10 hEL CR12.1)) (by decide) (by decide)
      show Q0 Z p1 p2 q1 q2 cs h0 n0 _ T13.heap _
      rw [e13]
      exact ⟨rfl, N13⟩
set_option maxRecDepth 65536 in
set_option maxHeartbeats 40000000 in
theorem comes_1 {Post : Tables → Env → Array Value → State → Outcome → State → Prop} (hpost : ∀ tb e args s v u, (limb_1_1.after args s (.returned v) u = true ∧ limb_1_2.after args s (.returned v) u = true ∧ True) → ReturnedEndW s (.returned v) u (Jvm.fieldLocs frame_1_writes args s ++ Jvm.arrayLocs frame_1_arrays args s ++ Jvm.staticLocs frame_1_statics s) 24 1152 → Post tb e args s (.returned v) u) :
    ArmFor flags0 classFile x code maxLocals ret World_1 tables_1 room_1 Calls_1 rest_1 Pre_1 Post := by
  intro l hfl _ _ p e ha hc hk s m args below hf hA hF happ hP
  obtain ⟨hcalls, hrest, hpre⟩ := hP
  obtain ⟨-, -, -, hnamed, -, -, -, hat⟩ := (Spec.applies_iff hf).mp happ
  obtain ⟨hg, hn⟩ := and_e (Cond.before_iff.mp (show (Jvm.Cond.and given_1 narrow_1).before args s = true from hpre))
  obtain ⟨gc, gr0⟩ := and_e hg
  obtain ⟨ga0, gr1⟩ := and_e gr0
  obtain ⟨ga1, gr2⟩ := and_e gr1
  obtain ⟨ga2, gr3⟩ := and_e gr2
  obtain ⟨w0, w1, w2, w3, rfl⟩ : ∃ w0 w1 w2 w3 : Value, args = #[w0, w1, w2, w3] := by
    have hs : args.size = 4 := by simpa [Cond.value, given_1] using gc
    obtain ⟨L⟩ := args
    match L, hs with
    | [w0, w1, w2, w3], _ => exact ⟨w0, w1, w2, w3, rfl⟩
  have hw := fun d (hd : d ∈ tables_1) => atoms_spec (ws := Jvm.Cond.code x code maxLocals ret :: tables_1) hat d (List.mem_cons_of_mem _ hd)
  have hfit : Fit s := fun {y c} hc i hi => by
    obtain ⟨ha, rfl⟩ := Array.getElem?_eq_some_iff.mp hc
    have q := List.all_eq_true.mp ((Array.all_eq_true_iff_forall_mem.mp hF) _ (Array.getElem_mem ha)) i (List.mem_range.mpr hi)
    simpa [Array.getElem?_eq_getElem hi] using q
  obtain ⟨i0, ei0⟩ := is_v ga0
  obtain rfl : w0 = (.int i0) := Option.some.inj ei0
  obtain ⟨i1, ei1⟩ := is_v ga1
  obtain rfl : w1 = (.int i1) := Option.some.inj ei1
  obtain ⟨i2, ei2⟩ := isL_v ga2
  obtain rfl : w2 = (.long i2) := Option.some.inj ei2
  obtain ⟨i3, ei3⟩ := isL_v gr3
  obtain rfl : w3 = (.long i3) := Option.some.inj ei3
  obtain ⟨hsets, hown0⟩ := atoms_of _ (rest_1_c_eq ▸ (show rest_1_c.before _ s = true from hrest))
  have n5 := not_v (Cond.before_iff.mp (hsets _ (List.mem_of_getElem? (i := 2) rfl)))
  obtain ⟨cs, ecs⟩ := is_v (Cond.before_iff.mp (hsets _ (List.mem_of_getElem? (i := 1) rfl)))
  have SBC : Sta s s.heap "java/lang/String" "COMPACT_STRINGS" "Z" (.int cs) := Sta.start ecs (Or.inl (hsets _ (List.mem_of_getElem? (i := 0) rfl)))
  have hcs : ¬ (cs = (0 : Int32)) := gotF (Cond.eq_ints ecs (Term.int_eval (0))) n5
  have SAD : Sta s s.heap "java/lang/StringUTF16" "$assertionsDisabled" "Z" (.int (1 : Int32)) := Sta.start (own_statI (Cond.before_iff.mp (hsets _ (List.mem_of_getElem? (i := 12) rfl)))) (Or.inl (hsets _ (List.mem_of_getElem? (i := 11) rfl)))
  have SHI : Sta s s.heap "java/lang/StringUTF16" "HI_BYTE_SHIFT" "I" (.int (0 : Int32)) := Sta.start (own_statI (Cond.before_iff.mp (hsets _ (List.mem_of_getElem? (i := 15) rfl)))) (Or.inl (hsets _ (List.mem_of_getElem? (i := 14) rfl)))
  have SLO : Sta s s.heap "java/lang/StringUTF16" "LO_BYTE_SHIFT" "I" (.int (8 : Int32)) := Sta.start (own_statI (Cond.before_iff.mp (hsets _ (List.mem_of_getElem? (i := 18) rfl)))) (Or.inl (hsets _ (List.mem_of_getElem? (i := 17) rfl)))
  have hEL : EW s _ own_EL := (EW.cons (hw _ (List.mem_of_getElem? (i := 18) rfl)) (by decide) EW.nil)
  have hCH : CHv s own_EL s.vm s.heap := CHv.start hEL (fun q hq => hcalls.1 q hq) (hsets _ (List.mem_of_getElem? (i := 2) rfl)) (hw _ (List.mem_of_getElem? (i := 19) rfl)) (hw _ (List.mem_of_getElem? (i := 5) rfl))
  obtain ⟨n, o, h1, h2, h3, _, L, rfl, ⟨rfl, N⟩, -, hq⟩ := rm0 l s _ hw tables_1 i0 i1 i2 i3 cs s.heap s.heap.size (Nat.le_refl _) SBC hcs SAD SHI SLO (Old.start s) hEL p e ha hc hk s m _ below hf ((Spec.applies_iff_loose hf).mp happ).1 ⟨rfl, State.Warmed39.refl s, rfl, hCH, all0⟩ trivial
  refine ⟨n, _, h1, h2, h3, hpost _ _ _ _ _ _ ⟨Cond.after_iff.mpr rfl, Cond.after_iff.mpr (eq_i res_at (Term.int_eval (1)) rfl), trivial⟩ ⟨hq.1, hq.2.1, hq.2.2.1, (hq.2.2.2.sift fun y hy => Or.inr (N y hy)).mono (by decide) (by decide)⟩⟩
theorem main_1_1 : Claimed_1_1 := comes_1 fun _ _ _ _ _ _ h hF => ⟨h.1, hF⟩
theorem main_1_2 : Claimed_1_2 := comes_1 fun _ _ _ _ _ _ h hF => ⟨h.2.1, hF⟩
end Jvm.Pilot.@@N@@
namespace Jvm.Pilot.@@N@@
open Jvm Jvm.ClassFile Sem Op Lib Jvm.Free Jvm.Stand Jvm.Pilot.@@N@@.Jvm.D
/-! MADE BY PROGRAM (witnessworld.py) out of the Statement's table words and the real class files: 20 classes; the members and pool entries that the words name. The judged class is class 1, her method 1. -/
namespace start1
open Jvm.ClassFile
def u (s : String) : CpInfo := .utf8 (stringToUtf16 s)
/-- a pool by its gaps: so many unusable entries, then the entry; so many at the end -/
def gap : Nat → List CpInfo → List CpInfo
  | 0, r => r
  | n + 1, r => .unusable :: gap n r
def poolList (es : List (Nat × CpInfo)) (last : Nat) : List CpInfo := es.foldr (fun e r => gap e.1 (e.2 :: r)) (gap last [])
def pool (es : List (Nat × CpInfo)) (last : Nat) : Array CpInfo := ⟨poolList es last⟩
def fileOf (pool : Array CpInfo) (this : Nat) (attrs : Array Attribute := #[]) (ms : Array MethodInfo := #[]) (fl : Nat := 33) (sup : Nat := 0) (ifs : Array Nat := #[]) (fds : Array FieldInfo := #[]) : ClassFile where
  minorVersion := 0
  majorVersion := 65
  constantPool := pool
  accessFlags := fl
  thisClass := this
  superClass := sup
  interfaces := ifs
  fields := fds
  methods := ms
  attributes := attrs
def plain (name : String) (sup : Option ClassId) : Class where
  name := name
  kind := .ordinary
  loader := none
  accessFlags := 33
  super := sup
  interfaces := #[]
  cf := none
  fields := #[]
  methods := #[]
  instanceTypes := #[]
  staticTypes := #[]
  resolved := #[]
  callSites := []
  init := .initialized
  statics := none
  mirror := none

def pool0 : Array CpInfo := pool [(5, u "<init>"), (0, u "()V"), (1, .class_ 10), (1, u "java/lang/Object")] 113

def k0c0 : Code := { maxStack := 0, maxLocals := 1, code := object_method_1_code, exceptionTable := #[], attributes := #[] }
def k0m0 : Method := { name := "<init>", desc := "()V", sig := { parameters := [], returnType := none }, accessFlags := 1, code := some k0c0 }
/-- java/lang/Object -/
def k0 : Class := { plain "java/lang/Object" none with
  accessFlags := 33
  interfaces := #[]
  cf := some (fileOf pool0 8 #[] #[{ accessFlags := 1, nameIndex := 5, descriptorIndex := 6, attributes := #[] }] 33 0 #[] #[])
  fields := #[]
  methods := #[k0m0]
  instanceTypes := #[]
  staticTypes := #[]
  resolved := Array.replicate 124 none
  statics := none }

def pool1 : Array CpInfo := pool [(2, .class_ 4), (1, u "java/lang/Object"), (0, u "<init>"), (0, u "()V"), (0, .methodref 8 9), (0, .class_ 10), (0, .nameAndType 11 12), (0, u "com/example/rules_for_records/rulesforrecords/regex/InputAtEndPinLaw"), (0, u "make"), (0, u "(IJ)Ljava/lang/String;"), (0, .class_ 14), (0, u "com/example/rules_for_records/rulesforrecords/regex/Input"), (0, .methodref 13 16), (0, .nameAndType 5 17), (0, u "(Ljava/lang/String;J)V"), (0, .methodref 13 19), (0, .nameAndType 20 21), (0, u "atEnd"), (0, u "(IZ)Z"), (0, .class_ 23), (0, u "java/lang/String"), (0, .methodref 22 25), (0, .nameAndType 5 26), (0, u "([C)V"), (2, u "law"), (0, u "(IIJJ)Z")] 3

def k1m0 : Method := { name := "<init>", desc := "()V", sig := { parameters := [], returnType := none }, accessFlags := 2, code := none }
def k1c1 : Code := { maxStack := 5, maxLocals := 13, code := code, exceptionTable := #[], attributes := #[] }
def k1m1 : Method := { name := "law", desc := "(IIJJ)Z", sig := { parameters := [.int, .int, .long, .long], returnType := some .boolean }, accessFlags := 9, code := some k1c1 }
def k1c2 : Code := { maxStack := 6, maxLocals := 6, code := method_3_code, exceptionTable := #[], attributes := #[] }
def k1m2 : Method := { name := "make", desc := "(IJ)Ljava/lang/String;", sig := { parameters := [.int, .long], returnType := some (.object "java/lang/String") }, accessFlags := 10, code := some k1c2 }
/-- com/example/rules_for_records/rulesforrecords/regex/InputAtEndPinLaw -/
def k1 : Class := { plain "com/example/rules_for_records/rulesforrecords/regex/InputAtEndPinLaw" (some 0) with
  accessFlags := 49
  interfaces := #[]
  cf := some (fileOf pool1 8 #[] #[{ accessFlags := 2, nameIndex := 5, descriptorIndex := 6, attributes := #[] }, { accessFlags := 9, nameIndex := 29, descriptorIndex := 30, attributes := #[] }, { accessFlags := 10, nameIndex := 11, descriptorIndex := 12, attributes := #[] }] 49 2 #[] #[])
  fields := #[]
  methods := #[k1m0, k1m1, k1m2]
  instanceTypes := #[]
  staticTypes := #[]
  resolved := Array.replicate 34 none
  statics := none }

def pool2 : Array CpInfo := pool [(1, .class_ 2), (0, u "java/io/Serializable"), (0, .class_ 4), (0, u "java/lang/Object")] 2

/-- java/io/Serializable -/
def k2 : Class := { plain "java/io/Serializable" (some 0) with
  accessFlags := 1537
  interfaces := #[]
  cf := some (fileOf pool2 1 #[] #[] 1537 3 #[] #[])
  fields := #[]
  methods := #[]
  instanceTypes := #[]
  staticTypes := #[]
  resolved := Array.replicate 7 none
  statics := none }

def pool3 : Array CpInfo := pool [(1, .class_ 2), (0, u "java/lang/Comparable"), (0, .class_ 4), (0, u "java/lang/Object")] 7

/-- java/lang/Comparable -/
def k3 : Class := { plain "java/lang/Comparable" (some 0) with
  accessFlags := 1537
  interfaces := #[]
  cf := some (fileOf pool3 1 #[] #[] 1537 3 #[] #[])
  fields := #[]
  methods := #[]
  instanceTypes := #[]
  staticTypes := #[]
  resolved := Array.replicate 12 none
  statics := none }

def pool4 : Array CpInfo := pool [(2, .class_ 4), (1, u "java/lang/CharSequence"), (42, .class_ 48), (0, u "java/lang/CharSequence$1CodePointIterator"), (10, .class_ 60), (0, u "java/lang/CharSequence$1CharIterator"), (5, .class_ 67), (0, u "java/lang/Object")] 63

/-- java/lang/CharSequence -/
def k4 : Class := { plain "java/lang/CharSequence" (some 0) with
  accessFlags := 1537
  interfaces := #[]
  cf := some (fileOf pool4 2 #[.nestMembers #[47, 59]] #[] 1537 66 #[] #[])
  fields := #[]
  methods := #[]
  instanceTypes := #[]
  staticTypes := #[]
  resolved := Array.replicate 131 none
  statics := none }

def pool5 : Array CpInfo := pool [(1, .class_ 2), (0, u "java/lang/constant/Constable"), (0, .class_ 4), (0, u "java/lang/Object")] 6

/-- java/lang/constant/Constable -/
def k5 : Class := { plain "java/lang/constant/Constable" (some 0) with
  accessFlags := 1537
  interfaces := #[]
  cf := some (fileOf pool5 1 #[] #[] 1537 3 #[] #[])
  fields := #[]
  methods := #[]
  instanceTypes := #[]
  staticTypes := #[]
  resolved := Array.replicate 11 none
  statics := none }

def pool6 : Array CpInfo := pool [(1, .class_ 2), (0, u "java/lang/constant/ConstantDesc"), (0, .class_ 4), (0, u "java/lang/Object")] 32

/-- java/lang/constant/ConstantDesc -/
def k6 : Class := { plain "java/lang/constant/ConstantDesc" (some 0) with
  accessFlags := 1537
  interfaces := #[]
  cf := some (fileOf pool6 1 #[] #[] 1537 3 #[] #[])
  fields := #[]
  methods := #[]
  instanceTypes := #[]
  staticTypes := #[]
  resolved := Array.replicate 37 none
  statics := none }

def pool7 : Array CpInfo := pool [(1, .methodref 2 3), (0, .class_ 4), (0, .nameAndType 5 6), (0, u "java/lang/Object"), (0, u "<init>"), (0, u "()V"), (0, .string 8), (0, u ""), (0, .fieldref 10 11), (0, .class_ 12), (0, .nameAndType 13 14), (0, u "java/lang/String"), (0, u "value"), (0, u "[B"), (0, .fieldref 10 16), (0, .nameAndType 17 18), (0, u "coder"), (0, u "B"), (2, u "hash"), (0, u "I"), (2, u "hashIsZero"), (0, u "Z"), (0, .methodref 10 28), (0, .nameAndType 5 29), (0, u "([CIILjava/lang/Void;)V"), (8, .fieldref 10 39), (0, .nameAndType 40 26), (0, u "COMPACT_STRINGS"), (1, .class_ 44), (1, u "java/lang/StringUTF16"), (0, u "compress"), (1, .methodref 42 48), (0, .nameAndType 49 50), (0, u "coderFromArrayLen"), (0, u "([BI)B"), (126, .methodref 42 178), (0, .nameAndType 45 179), (0, u "([CII)[B"), (154, u "()I"), (0, .methodref 10 336), (0, .nameAndType 17 337), (0, u "()B"), (169, u "length"), (67, .class_ 576), (0, u "java/lang/CharSequence"), (22, u "CASE_INSENSITIVE_ORDER"), (0, u "Ljava/util/Comparator;"), (409, u "([C)V"), (90, u "serialPersistentFields"), (0, u "[Ljava/io/ObjectStreamField;"), (0, .class_ 1104), (0, u "java/lang/String$CaseInsensitiveComparator"), (1, .class_ 1107), (0, u "java/io/Serializable"), (0, .class_ 1109), (0, u "java/lang/Comparable"), (0, .class_ 1111), (0, u "java/lang/constant/Constable"), (0, .class_ 1113), (0, u "java/lang/constant/ConstantDesc"), (2, u "serialVersionUID"), (0, u "J"), (3, u "REPL"), (0, u "C"), (2, u "LATIN1"), (1, u "UTF16")] 323

def k7m0 : Method := { name := "<init>", desc := "()V", sig := { parameters := [], returnType := none }, accessFlags := 1, code := none }
def k7c1 : Code := { maxStack := 5, maxLocals := 2, code := jdk_42_method_3_code, exceptionTable := #[], attributes := #[] }
def k7m1 : Method := { name := "<init>", desc := "([C)V", sig := { parameters := [(.array .char)], returnType := none }, accessFlags := 1, code := some k7c1 }
def k7c2 : Code := { maxStack := 2, maxLocals := 1, code := jdk_42_method_54_code, exceptionTable := #[], attributes := #[] }
def k7m2 : Method := { name := "length", desc := "()I", sig := { parameters := [], returnType := some .int }, accessFlags := 1, code := some k7c2 }
def k7c3 : Code := { maxStack := 4, maxLocals := 6, code := jdk_42_method_149_code, exceptionTable := #[], attributes := #[] }
def k7m3 : Method := { name := "<init>", desc := "([CIILjava/lang/Void;)V", sig := { parameters := [(.array .char), .int, .int, (.object "java/lang/Void")], returnType := none }, accessFlags := 2, code := some k7c3 }
def k7c4 : Code := { maxStack := 1, maxLocals := 1, code := jdk_42_method_152_code, exceptionTable := #[], attributes := #[] }
def k7m4 : Method := { name := "coder", desc := "()B", sig := { parameters := [], returnType := some .byte }, accessFlags := 0, code := some k7c4 }
/-- java/lang/String -/
def k7 : Class := { plain "java/lang/String" (some 0) with
  accessFlags := 49
  interfaces := #[2, 3, 4, 5, 6]
  cf := some (fileOf pool7 10 #[.nestMembers #[1103]] #[{ accessFlags := 1, nameIndex := 5, descriptorIndex := 6, attributes := #[] }, { accessFlags := 1, nameIndex := 5, descriptorIndex := 1010, attributes := #[] }, { accessFlags := 1, nameIndex := 507, descriptorIndex := 334, attributes := #[] }, { accessFlags := 2, nameIndex := 5, descriptorIndex := 29, attributes := #[] }, { accessFlags := 0, nameIndex := 17, descriptorIndex := 337, attributes := #[] }] 49 2 #[1106, 1108, 575, 1110, 1112] #[{ accessFlags := 18, nameIndex := 13, descriptorIndex := 14, attributes := #[] }, { accessFlags := 18, nameIndex := 17, descriptorIndex := 18, attributes := #[] }, { accessFlags := 2, nameIndex := 21, descriptorIndex := 22, attributes := #[] }, { accessFlags := 2, nameIndex := 25, descriptorIndex := 26, attributes := #[] }, { accessFlags := 26, nameIndex := 1116, descriptorIndex := 1117, attributes := #[] }, { accessFlags := 24, nameIndex := 40, descriptorIndex := 26, attributes := #[] }, { accessFlags := 26, nameIndex := 1101, descriptorIndex := 1102, attributes := #[] }, { accessFlags := 26, nameIndex := 1121, descriptorIndex := 1122, attributes := #[] }, { accessFlags := 25, nameIndex := 599, descriptorIndex := 600, attributes := #[] }, { accessFlags := 24, nameIndex := 1125, descriptorIndex := 18, attributes := #[] }, { accessFlags := 24, nameIndex := 1127, descriptorIndex := 18, attributes := #[] }])
  fields := #[{ name := "value", type := (.array .byte), accessFlags := 18, slot := 0, constantValue := 0 }, { name := "coder", type := .byte, accessFlags := 18, slot := 1, constantValue := 0 }, { name := "hash", type := .int, accessFlags := 2, slot := 2, constantValue := 0 }, { name := "hashIsZero", type := .boolean, accessFlags := 2, slot := 3, constantValue := 0 }, { name := "serialVersionUID", type := .long, accessFlags := 26, slot := 0, constantValue := 0 }, { name := "COMPACT_STRINGS", type := .boolean, accessFlags := 24, slot := 1, constantValue := 0 }, { name := "serialPersistentFields", type := (.array (.object "java/io/ObjectStreamField")), accessFlags := 26, slot := 2, constantValue := 0 }, { name := "REPL", type := .char, accessFlags := 26, slot := 3, constantValue := 0 }, { name := "CASE_INSENSITIVE_ORDER", type := (.object "java/util/Comparator"), accessFlags := 25, slot := 4, constantValue := 0 }, { name := "LATIN1", type := .byte, accessFlags := 24, slot := 5, constantValue := 0 }, { name := "UTF16", type := .byte, accessFlags := 24, slot := 6, constantValue := 0 }]
  methods := #[k7m0, k7m1, k7m2, k7m3, k7m4]
  instanceTypes := #[(.array .byte), .byte, .int, .boolean]
  staticTypes := #[.long, .boolean, (.array (.object "java/io/ObjectStreamField")), .char, (.object "java/util/Comparator"), .byte, .byte]
  resolved := Array.replicate 1451 none
  statics := some 0 }

def pool8 : Array CpInfo := pool [(1, .methodref 2 3), (0, .class_ 4), (0, .nameAndType 5 6), (0, u "java/lang/Object"), (0, u "<init>"), (0, u "()V"), (0, .fieldref 8 9), (0, .class_ 10), (0, .nameAndType 11 12), (0, u "com/example/rules_for_records/rulesforrecords/regex/Input"), (0, u "text"), (0, u "Ljava/lang/String;"), (0, .methodref 14 15), (0, .class_ 16), (0, .nameAndType 17 18), (0, u "java/lang/String"), (0, u "length"), (0, u "()I"), (0, .fieldref 8 20), (0, .nameAndType 17 21), (0, u "I"), (0, .fieldref 8 23), (0, .nameAndType 24 25), (0, u "stepsLeft"), (0, u "J"), (4, .class_ 31), (0, u "com/example/rules_for_records/rulesforrecords/regex/Input$StepLimitReached"), (15, u "KINDS"), (0, u "[Lcom/example/rules_for_records/rulesforrecords/regex/Node$Assertion$Kind;"), (37, u "(Ljava/lang/String;J)V"), (3, u "atEnd"), (0, u "(IZ)Z")] 20

def k8c0 : Code := { maxStack := 3, maxLocals := 4, code := prog_77_method_1_code, exceptionTable := #[], attributes := #[] }
def k8m0 : Method := { name := "<init>", desc := "(Ljava/lang/String;J)V", sig := { parameters := [(.object "java/lang/String"), .long], returnType := none }, accessFlags := 0, code := some k8c0 }
def k8c1 : Code := { maxStack := 2, maxLocals := 3, code := prog_77_method_4_code, exceptionTable := #[], attributes := #[] }
def k8m1 : Method := { name := "atEnd", desc := "(IZ)Z", sig := { parameters := [.int, .boolean], returnType := some .boolean }, accessFlags := 0, code := some k8c1 }
/-- com/example/rules_for_records/rulesforrecords/regex/Input -/
def k8 : Class := { plain "com/example/rules_for_records/rulesforrecords/regex/Input" (some 0) with
  accessFlags := 48
  interfaces := #[]
  cf := some (fileOf pool8 8 #[.nestMembers #[30]] #[{ accessFlags := 0, nameIndex := 5, descriptorIndex := 86, attributes := #[] }, { accessFlags := 0, nameIndex := 90, descriptorIndex := 91, attributes := #[] }] 48 2 #[] #[{ accessFlags := 26, nameIndex := 47, descriptorIndex := 48, attributes := #[] }, { accessFlags := 16, nameIndex := 11, descriptorIndex := 12, attributes := #[] }, { accessFlags := 16, nameIndex := 17, descriptorIndex := 21, attributes := #[] }, { accessFlags := 2, nameIndex := 24, descriptorIndex := 25, attributes := #[] }])
  fields := #[{ name := "KINDS", type := (.array (.object "com/example/rules_for_records/rulesforrecords/regex/Node$Assertion$Kind")), accessFlags := 26, slot := 0, constantValue := 0 }, { name := "text", type := (.object "java/lang/String"), accessFlags := 16, slot := 0, constantValue := 0 }, { name := "length", type := .int, accessFlags := 16, slot := 1, constantValue := 0 }, { name := "stepsLeft", type := .long, accessFlags := 2, slot := 2, constantValue := 0 }]
  methods := #[k8m0, k8m1]
  instanceTypes := #[(.object "java/lang/String"), .int, .long]
  staticTypes := #[(.array (.object "com/example/rules_for_records/rulesforrecords/regex/Node$Assertion$Kind"))]
  resolved := Array.replicate 112 none
  statics := none }

def pool9 : Array CpInfo := pool [(6, .class_ 8), (1, u "java/lang/Object"), (0, u "<init>"), (0, u "()V"), (0, .methodref 12 13), (0, .class_ 14), (0, .nameAndType 15 16), (0, u "java/lang/StringUTF16"), (0, u "newBytesLength"), (0, u "(I)I"), (3, .integer 1073741823), (23, .fieldref 12 45), (0, .nameAndType 46 47), (0, u "$assertionsDisabled"), (0, u "Z"), (11, .fieldref 12 60), (0, .nameAndType 61 62), (0, u "HI_BYTE_SHIFT"), (0, u "I"), (0, .fieldref 12 64), (0, .nameAndType 65 62), (0, u "LO_BYTE_SHIFT"), (5, .methodref 12 72), (0, .nameAndType 73 74), (0, u "getChar"), (0, u "([BI)C"), (32, .methodref 12 108), (0, .nameAndType 109 110), (0, u "newBytesFor"), (0, u "(I)[B"), (0, .methodref 12 112), (0, .nameAndType 113 114), (0, u "putChar"), (0, u "([BII)V"), (0, .methodref 12 116), (0, .nameAndType 117 118), (0, u "compress"), (0, u "([CI[BII)I"), (0, .methodref 12 120), (0, .nameAndType 121 122), (0, u "toBytes"), (0, u "([CII)[B"), (138, u "coderFromArrayLen"), (0, u "([BI)B"), (106, .class_ 371), (1, u "java/lang/StringUTF16$LinesSpliterator"), (58, u "MAX_LENGTH"), (196, .class_ 628), (0, u "java/lang/StringUTF16$CodePointsSpliterator"), (0, .class_ 630), (0, u "java/lang/StringUTF16$CharsSpliterator")] 4

def k9m0 : Method := { name := "<init>", desc := "()V", sig := { parameters := [], returnType := none }, accessFlags := 0, code := none }
def k9c1 : Code := { maxStack := 1, maxLocals := 1, code := jdk_52_method_2_code, exceptionTable := #[], attributes := #[] }
def k9m1 : Method := { name := "newBytesFor", desc := "(I)[B", sig := { parameters := [.int], returnType := some (.array .byte) }, accessFlags := 9, code := some k9c1 }
def k9c2 : Code := { maxStack := 4, maxLocals := 1, code := jdk_52_method_3_code, exceptionTable := #[], attributes := #[] }
def k9m2 : Method := { name := "newBytesLength", desc := "(I)I", sig := { parameters := [.int], returnType := some .int }, accessFlags := 9, code := some k9c2 }
def k9c3 : Code := { maxStack := 4, maxLocals := 3, code := jdk_52_method_4_code, exceptionTable := #[], attributes := #[] }
def k9m3 : Method := { name := "putChar", desc := "([BII)V", sig := { parameters := [(.array .byte), .int, .int], returnType := none }, accessFlags := 8, code := some k9c3 }
def k9c4 : Code := { maxStack := 3, maxLocals := 2, code := jdk_52_method_5_code, exceptionTable := #[], attributes := #[] }
def k9m4 : Method := { name := "getChar", desc := "([BI)C", sig := { parameters := [(.array .byte), .int], returnType := some .char }, accessFlags := 8, code := some k9c4 }
def k9c5 : Code := { maxStack := 4, maxLocals := 5, code := jdk_52_method_14_code, exceptionTable := #[], attributes := #[] }
def k9m5 : Method := { name := "toBytes", desc := "([CII)[B", sig := { parameters := [(.array .char), .int, .int], returnType := some (.array .byte) }, accessFlags := 9, code := some k9c5 }
def k9c6 : Code := { maxStack := 2, maxLocals := 2, code := jdk_52_method_15_code, exceptionTable := #[], attributes := #[] }
def k9m6 : Method := { name := "coderFromArrayLen", desc := "([BI)B", sig := { parameters := [(.array .byte), .int], returnType := some .byte }, accessFlags := 8, code := some k9c6 }
def k9c7 : Code := { maxStack := 5, maxLocals := 6, code := jdk_52_method_16_code, exceptionTable := #[], attributes := #[] }
def k9m7 : Method := { name := "compress", desc := "([CII)[B", sig := { parameters := [(.array .char), .int, .int], returnType := some (.array .byte) }, accessFlags := 9, code := some k9c7 }
def k9c8 : Code := { maxStack := 3, maxLocals := 7, code := jdk_52_method_21_code, exceptionTable := #[], attributes := #[] }
def k9m8 : Method := { name := "compress", desc := "([CI[BII)I", sig := { parameters := [(.array .char), .int, (.array .byte), .int, .int], returnType := some .int }, accessFlags := 9, code := some k9c8 }
/-- java/lang/StringUTF16 -/
def k9 : Class := { plain "java/lang/StringUTF16" (some 0) with
  accessFlags := 48
  interfaces := #[]
  cf := some (fileOf pool9 12 #[.nestMembers #[627, 629, 369]] #[{ accessFlags := 0, nameIndex := 9, descriptorIndex := 10, attributes := #[] }, { accessFlags := 9, nameIndex := 109, descriptorIndex := 110, attributes := #[] }, { accessFlags := 9, nameIndex := 15, descriptorIndex := 16, attributes := #[] }, { accessFlags := 8, nameIndex := 113, descriptorIndex := 114, attributes := #[] }, { accessFlags := 8, nameIndex := 73, descriptorIndex := 74, attributes := #[] }, { accessFlags := 9, nameIndex := 121, descriptorIndex := 122, attributes := #[] }, { accessFlags := 8, nameIndex := 261, descriptorIndex := 262, attributes := #[] }, { accessFlags := 9, nameIndex := 117, descriptorIndex := 122, attributes := #[] }, { accessFlags := 9, nameIndex := 117, descriptorIndex := 118, attributes := #[] }] 48 6 #[] #[{ accessFlags := 26, nameIndex := 61, descriptorIndex := 62, attributes := #[] }, { accessFlags := 26, nameIndex := 65, descriptorIndex := 62, attributes := #[] }, { accessFlags := 24, nameIndex := 430, descriptorIndex := 62, attributes := #[] }, { accessFlags := 4120, nameIndex := 46, descriptorIndex := 47, attributes := #[] }])
  fields := #[{ name := "HI_BYTE_SHIFT", type := .int, accessFlags := 26, slot := 0, constantValue := 0 }, { name := "LO_BYTE_SHIFT", type := .int, accessFlags := 26, slot := 1, constantValue := 0 }, { name := "MAX_LENGTH", type := .int, accessFlags := 24, slot := 2, constantValue := 0 }, { name := "$assertionsDisabled", type := .boolean, accessFlags := 4120, slot := 3, constantValue := 0 }]
  methods := #[k9m0, k9m1, k9m2, k9m3, k9m4, k9m5, k9m6, k9m7, k9m8]
  instanceTypes := #[]
  staticTypes := #[.int, .int, .int, .boolean]
  resolved := Array.replicate 635 none
  statics := some 1 }

def pool10 : Array CpInfo := pool [(4, .class_ 6), (1, u "java/lang/Object"), (0, u "<init>"), (0, u "()V"), (5, .class_ 16), (1, u "java/lang/StringLatin1"), (104, u "$assertionsDisabled"), (0, u "Z"), (98, .class_ 223), (1, u "java/lang/StringLatin1$LinesSpliterator"), (166, .class_ 391), (0, u "java/lang/StringLatin1$CharsSpliterator")] 3

def k10m0 : Method := { name := "<init>", desc := "()V", sig := { parameters := [], returnType := none }, accessFlags := 0, code := none }
/-- java/lang/StringLatin1 -/
def k10 : Class := { plain "java/lang/StringLatin1" (some 0) with
  accessFlags := 48
  interfaces := #[]
  cf := some (fileOf pool10 14 #[.nestMembers #[390, 221]] #[{ accessFlags := 0, nameIndex := 7, descriptorIndex := 8, attributes := #[] }] 48 4 #[] #[{ accessFlags := 4120, nameIndex := 121, descriptorIndex := 122, attributes := #[] }])
  fields := #[{ name := "$assertionsDisabled", type := .boolean, accessFlags := 4120, slot := 0, constantValue := 0 }]
  methods := #[k10m0]
  instanceTypes := #[]
  staticTypes := #[.boolean]
  resolved := Array.replicate 395 none
  statics := none }

def pool11 : Array CpInfo := pool [(2, .class_ 4), (1, u "java/lang/Object"), (0, u "<init>"), (0, u "()V"), (17, .class_ 26), (1, u "jdk/internal/util/Preconditions"), (28, .class_ 56), (0, u "jdk/internal/util/Preconditions$4"), (57, .class_ 115), (0, u "jdk/internal/util/Preconditions$1"), (7, u "SIOOBE_FORMATTER"), (0, u "Ljava/util/function/BiFunction;"), (0, .class_ 126), (0, u "jdk/internal/util/Preconditions$2"), (3, u "AIOOBE_FORMATTER"), (0, .class_ 132), (0, u "jdk/internal/util/Preconditions$3"), (3, u "IOOBE_FORMATTER")] 57

def k11m0 : Method := { name := "<init>", desc := "()V", sig := { parameters := [], returnType := none }, accessFlags := 1, code := none }
/-- jdk/internal/util/Preconditions -/
def k11 : Class := { plain "jdk/internal/util/Preconditions" (some 0) with
  accessFlags := 33
  interfaces := #[]
  cf := some (fileOf pool11 24 #[.nestMembers #[55, 131, 125, 114]] #[{ accessFlags := 1, nameIndex := 5, descriptorIndex := 6, attributes := #[] }] 33 2 #[] #[{ accessFlags := 25, nameIndex := 123, descriptorIndex := 124, attributes := #[] }, { accessFlags := 25, nameIndex := 130, descriptorIndex := 124, attributes := #[] }, { accessFlags := 25, nameIndex := 136, descriptorIndex := 124, attributes := #[] }])
  fields := #[{ name := "SIOOBE_FORMATTER", type := (.object "java/util/function/BiFunction"), accessFlags := 25, slot := 0, constantValue := 0 }, { name := "AIOOBE_FORMATTER", type := (.object "java/util/function/BiFunction"), accessFlags := 25, slot := 1, constantValue := 0 }, { name := "IOOBE_FORMATTER", type := (.object "java/util/function/BiFunction"), accessFlags := 25, slot := 2, constantValue := 0 }]
  methods := #[k11m0]
  instanceTypes := #[]
  staticTypes := #[(.object "java/util/function/BiFunction"), (.object "java/util/function/BiFunction"), (.object "java/util/function/BiFunction")]
  resolved := Array.replicate 194 none
  statics := some 2 }

def pool12 : Array CpInfo := pool [(9, u "<init>"), (6, .class_ 18), (1, u "java/lang/Object"), (0, u "()V"), (1, .class_ 23), (1, u "jdk/internal/util/ArraysSupport"), (0, u "LOG2_ARRAY_LONG_INDEX_SCALE"), (0, u "I"), (2, u "U"), (0, u "Ljdk/internal/misc/Unsafe;"), (8, u "BIG_ENDIAN"), (0, u "Z"), (8, u "LOG2_BYTE_BIT_SIZE"), (4, u "LOG2_ARRAY_INT_INDEX_SCALE"), (54, u "JLA"), (0, u "Ljdk/internal/access/JavaLangAccess;"), (11, u "LOG2_ARRAY_BOOLEAN_INDEX_SCALE"), (9, u "LOG2_ARRAY_BYTE_INDEX_SCALE"), (5, u "LOG2_ARRAY_CHAR_INDEX_SCALE"), (5, u "LOG2_ARRAY_SHORT_INDEX_SCALE"), (18, u "LOG2_ARRAY_FLOAT_INDEX_SCALE"), (24, u "LOG2_ARRAY_DOUBLE_INDEX_SCALE"), (89, u "T_BOOLEAN"), (2, u "T_CHAR"), (1, u "T_FLOAT"), (1, u "T_DOUBLE"), (1, u "T_BYTE"), (1, u "T_SHORT"), (1, u "T_INT"), (1, u "T_LONG"), (1, u "SOFT_MAX_ARRAY_LENGTH")] 83

def k12m0 : Method := { name := "<init>", desc := "()V", sig := { parameters := [], returnType := none }, accessFlags := 2, code := none }
/-- jdk/internal/util/ArraysSupport -/
def k12 : Class := { plain "jdk/internal/util/ArraysSupport" (some 0) with
  accessFlags := 33
  interfaces := #[]
  cf := some (fileOf pool12 21 #[] #[{ accessFlags := 2, nameIndex := 9, descriptorIndex := 19, attributes := #[] }] 33 16 #[] #[{ accessFlags := 24, nameIndex := 28, descriptorIndex := 29, attributes := #[] }, { accessFlags := 26, nameIndex := 38, descriptorIndex := 39, attributes := #[] }, { accessFlags := 25, nameIndex := 121, descriptorIndex := 25, attributes := #[] }, { accessFlags := 25, nameIndex := 131, descriptorIndex := 25, attributes := #[] }, { accessFlags := 25, nameIndex := 137, descriptorIndex := 25, attributes := #[] }, { accessFlags := 25, nameIndex := 143, descriptorIndex := 25, attributes := #[] }, { accessFlags := 25, nameIndex := 53, descriptorIndex := 25, attributes := #[] }, { accessFlags := 25, nameIndex := 24, descriptorIndex := 25, attributes := #[] }, { accessFlags := 25, nameIndex := 162, descriptorIndex := 25, attributes := #[] }, { accessFlags := 25, nameIndex := 187, descriptorIndex := 25, attributes := #[] }, { accessFlags := 26, nameIndex := 48, descriptorIndex := 25, attributes := #[] }, { accessFlags := 25, nameIndex := 277, descriptorIndex := 25, attributes := #[] }, { accessFlags := 25, nameIndex := 280, descriptorIndex := 25, attributes := #[] }, { accessFlags := 25, nameIndex := 282, descriptorIndex := 25, attributes := #[] }, { accessFlags := 25, nameIndex := 284, descriptorIndex := 25, attributes := #[] }, { accessFlags := 25, nameIndex := 286, descriptorIndex := 25, attributes := #[] }, { accessFlags := 25, nameIndex := 288, descriptorIndex := 25, attributes := #[] }, { accessFlags := 25, nameIndex := 290, descriptorIndex := 25, attributes := #[] }, { accessFlags := 25, nameIndex := 292, descriptorIndex := 25, attributes := #[] }, { accessFlags := 26, nameIndex := 108, descriptorIndex := 109, attributes := #[] }, { accessFlags := 25, nameIndex := 294, descriptorIndex := 25, attributes := #[] }])
  fields := #[{ name := "U", type := (.object "jdk/internal/misc/Unsafe"), accessFlags := 24, slot := 0, constantValue := 0 }, { name := "BIG_ENDIAN", type := .boolean, accessFlags := 26, slot := 1, constantValue := 0 }, { name := "LOG2_ARRAY_BOOLEAN_INDEX_SCALE", type := .int, accessFlags := 25, slot := 2, constantValue := 0 }, { name := "LOG2_ARRAY_BYTE_INDEX_SCALE", type := .int, accessFlags := 25, slot := 3, constantValue := 0 }, { name := "LOG2_ARRAY_CHAR_INDEX_SCALE", type := .int, accessFlags := 25, slot := 4, constantValue := 0 }, { name := "LOG2_ARRAY_SHORT_INDEX_SCALE", type := .int, accessFlags := 25, slot := 5, constantValue := 0 }, { name := "LOG2_ARRAY_INT_INDEX_SCALE", type := .int, accessFlags := 25, slot := 6, constantValue := 0 }, { name := "LOG2_ARRAY_LONG_INDEX_SCALE", type := .int, accessFlags := 25, slot := 7, constantValue := 0 }, { name := "LOG2_ARRAY_FLOAT_INDEX_SCALE", type := .int, accessFlags := 25, slot := 8, constantValue := 0 }, { name := "LOG2_ARRAY_DOUBLE_INDEX_SCALE", type := .int, accessFlags := 25, slot := 9, constantValue := 0 }, { name := "LOG2_BYTE_BIT_SIZE", type := .int, accessFlags := 26, slot := 10, constantValue := 0 }, { name := "T_BOOLEAN", type := .int, accessFlags := 25, slot := 11, constantValue := 0 }, { name := "T_CHAR", type := .int, accessFlags := 25, slot := 12, constantValue := 0 }, { name := "T_FLOAT", type := .int, accessFlags := 25, slot := 13, constantValue := 0 }, { name := "T_DOUBLE", type := .int, accessFlags := 25, slot := 14, constantValue := 0 }, { name := "T_BYTE", type := .int, accessFlags := 25, slot := 15, constantValue := 0 }, { name := "T_SHORT", type := .int, accessFlags := 25, slot := 16, constantValue := 0 }, { name := "T_INT", type := .int, accessFlags := 25, slot := 17, constantValue := 0 }, { name := "T_LONG", type := .int, accessFlags := 25, slot := 18, constantValue := 0 }, { name := "JLA", type := (.object "jdk/internal/access/JavaLangAccess"), accessFlags := 26, slot := 19, constantValue := 0 }, { name := "SOFT_MAX_ARRAY_LENGTH", type := .int, accessFlags := 25, slot := 20, constantValue := 0 }]
  methods := #[k12m0]
  instanceTypes := #[]
  staticTypes := #[(.object "jdk/internal/misc/Unsafe"), .boolean, .int, .int, .int, .int, .int, .int, .int, .int, .int, .int, .int, .int, .int, .int, .int, .int, .int, (.object "jdk/internal/access/JavaLangAccess"), .int]
  resolved := Array.replicate 378 none
  statics := none }

def pool13 : Array CpInfo := pool [(1, u "java/lang/Cloneable"), (0, .class_ 1), (0, u "java/lang/Object"), (0, .class_ 3)] 3

/-- java/lang/Cloneable -/
def k13 : Class := { plain "java/lang/Cloneable" (some 0) with
  accessFlags := 1537
  interfaces := #[]
  cf := some (fileOf pool13 2 #[] #[] 1537 4 #[] #[])
  fields := #[]
  methods := #[]
  instanceTypes := #[]
  staticTypes := #[]
  resolved := Array.replicate 8 none
  statics := none }

/-- the primitive byte -/
def k14 : Class := { plain "byte" none with kind := .primitive 'B', accessFlags := 0x411 }
/-- [B -/
def k15 : Class := { plain "[B" (some 0) with kind := .array 14 .byte, interfaces := #[13, 2], accessFlags := 1041 }

/-- the primitive char -/
def k16 : Class := { plain "char" none with kind := .primitive 'C', accessFlags := 0x411 }
/-- [C -/
def k17 : Class := { plain "[C" (some 0) with kind := .array 16 .char, interfaces := #[13, 2], accessFlags := 1041 }

/-- the primitive int -/
def k18 : Class := { plain "int" none with kind := .primitive 'I', accessFlags := 0x411 }
/-- [I -/
def k19 : Class := { plain "[I" (some 0) with kind := .array 18 .int, interfaces := #[13, 2], accessFlags := 1041 }

def heap : Heap := #[{ cls := 7, slots := #[.long 0, .int 1, .null, .int 0, .null, .int 0, .int 0], vm := .statics 7 },
  { cls := 9, slots := #[.int 0, .int 8, .int 0, .int 1], vm := .statics 9 },
  { cls := 11, slots := #[.null, .null, .null], vm := .statics 11 }]
def classes : Array Class := #[k0, k1, k2, k3, k4, k5, k6, k7, k8, k9, k10, k11, k12, k13, k14, k15, k16, k17, k18, k19]
def interned : List (Array UInt16 × Addr) := []
def slotsUsed : Nat := 14
def theMethod : MethodId := ⟨1, 1⟩
def args0 : Array Value := #[.int 5, .int 3, .long 66, .long 7]
def aboutOver (below : List Frame) : State where
  vm := { classes := classes, interned := interned.toArray }
  heap := heap
  slotsUsed := slotsUsed
  threads := #[{ frames := .invoking theMethod args0 :: below }]
def below0 : List Frame := [.native { method := ⟨0, 0⟩, args := #[] }]
def about1 : State := aboutOver below0
def p0 : Program := .bare "" "" ""
def e0 : Env := launch0.env 0 0 0
theorem w_frames : about1.frames = Frame.invoking theMethod args0 :: below0 := rfl
set_option maxRecDepth 65536 in
theorem w_args : argsFit about1.vm theMethod args0 = true := by decide +kernel
set_option maxRecDepth 65536 in
theorem w_heap : heapFits about1 = true := by decide +kernel
set_option maxRecDepth 65536 in
theorem w_runnable : about1.curStatus? = some .runnable := by decide +kernel
set_option maxRecDepth 65536 in
theorem w_alone : about1.alone = true := by decide +kernel
set_option maxRecDepth 65536 in
theorem w_named : about1.methodNamed? x = some theMethod := by decide +kernel
set_option maxRecDepth 65536 in
theorem w_hears : about1.hears theMethod below0 = true := by decide +kernel
set_option maxRecDepth 65536 in
theorem w_ripe : about1.ripe theMethod args0 below0 = true := by decide +kernel
theorem w_running : about1.status = .running := rfl
set_option maxRecDepth 65536 in
theorem w_room : about1.hasRoom e0.platform room_1 = true :=
  launch0.hasRoom_least _ room_1 (by decide +kernel) (by decide +kernel) (by decide +kernel) (by decide +kernel) (by decide +kernel) (by decide +kernel)
theorem allAtoms_all (ts : List Jvm.Cond) (a : Array Jvm.Value) (st : Jvm.State) : (allAtoms ts).before a st = ts.all (fun c => c.before a st) := by
  induction ts with
  | nil => rfl
  | cons c t ih =>
    show (Jvm.Cond.and c (allAtoms t)).before a st = _
    rw [Jvm.Cond.before_and, ih, List.all_cons]
def words1 : List Jvm.Cond := Jvm.Cond.code x code maxLocals ret :: tables_1
/-- a 'code' word, met by the world's own term for the bytes: nothing is compared byte by byte -/
theorem code_word {y : MethodName} {bytes : ByteArray} {mx : Nat} {rt : Option FieldType} {a : Array Value} {s : State} {m : MethodId} {meth : Method} {c : Code} (h1 : s.methodNamed? y = some m) (h2 : s.vm.method? m = some meth) (h3 : meth.code = some c) (h4 : c.code = bytes)
    (h5 : (c.maxLocals == mx && c.exceptionTable.isEmpty && decide (c.maxStack ≤ mostOperands) && decide (meth.sig.returnType = rt) && !meth.locks && decide (parseMethodDescriptor y.desc = some meth.sig)) = true) : (Jvm.Cond.code y bytes mx rt).before a s = true := by
  simp only [Bool.and_eq_true, beq_iff_eq, Bool.not_eq_true', decide_eq_true_eq] at h5
  obtain ⟨⟨⟨⟨⟨g1, g2⟩, g3⟩, g4⟩, g5⟩, g6⟩ := h5
  simp [Cond.before, Cond.holds, Cond.value, h1, h2, h3, h4, g1, g2, g3, g4, g5, g6]
def isCode : Jvm.Cond → Bool
  | .code _ _ _ _ => true
  | _ => false
theorem all_split {L : List Jvm.Cond} {P : Jvm.Cond → Bool} (h1 : L.all (fun c => isCode c || P c) = true) (h2 : ∀ c ∈ L.filter isCode, P c = true) : L.all P = true := by
  refine List.all_eq_true.mpr fun c hc => ?_
  have h := List.all_eq_true.mp h1 c hc
  rcases Bool.eq_false_or_eq_true (isCode c) with hi | hi
  · exact h2 c (List.mem_filter.mpr ⟨hc, hi⟩)
  · simpa [hi] using h
set_option maxRecDepth 65536 in
theorem w_c0 : (Jvm.Cond.code x code maxLocals ret).before args0 about1 = true := code_word (m := ⟨1, 1⟩) (meth := k1m1) (c := k1c1) (by decide +kernel) rfl rfl rfl (by decide +kernel)
set_option maxRecDepth 65536 in
theorem w_c1 : (Jvm.Cond.code ({ cls := "com/example/rules_for_records/rulesforrecords/regex/InputAtEndPinLaw", name := "make", desc := "(IJ)Ljava/lang/String;" } : Jvm.MethodName) method_3_code (6 : Nat) (Option.some (Jvm.ClassFile.FieldType.object "java/lang/String"))).before args0 about1 = true := code_word (m := ⟨1, 2⟩) (meth := k1m2) (c := k1c2) (by decide +kernel) rfl rfl rfl (by decide +kernel)
set_option maxRecDepth 65536 in
theorem w_c2 : (Jvm.Cond.code ({ cls := "java/lang/String", name := "<init>", desc := "([C)V" } : Jvm.MethodName) jdk_42_method_3_code (2 : Nat) (Option.none : Option Jvm.ClassFile.FieldType)).before args0 about1 = true := code_word (m := ⟨7, 1⟩) (meth := k7m1) (c := k7c1) (by decide +kernel) rfl rfl rfl (by decide +kernel)
set_option maxRecDepth 65536 in
theorem w_c3 : (Jvm.Cond.code ({ cls := "java/lang/String", name := "<init>", desc := "([CIILjava/lang/Void;)V" } : Jvm.MethodName) jdk_42_method_149_code (6 : Nat) (Option.none : Option Jvm.ClassFile.FieldType)).before args0 about1 = true := code_word (m := ⟨7, 3⟩) (meth := k7m3) (c := k7c3) (by decide +kernel) rfl rfl rfl (by decide +kernel)
set_option maxRecDepth 65536 in
theorem w_c4 : (Jvm.Cond.code ({ cls := "java/lang/Object", name := "<init>", desc := "()V" } : Jvm.MethodName) object_method_1_code (1 : Nat) (Option.none : Option Jvm.ClassFile.FieldType)).before args0 about1 = true := code_word (m := ⟨0, 0⟩) (meth := k0m0) (c := k0c0) (by decide +kernel) rfl rfl rfl (by decide +kernel)
set_option maxRecDepth 65536 in
theorem w_c5 : (Jvm.Cond.code ({ cls := "com/example/rules_for_records/rulesforrecords/regex/Input", name := "<init>", desc := "(Ljava/lang/String;J)V" } : Jvm.MethodName) prog_77_method_1_code (4 : Nat) (Option.none : Option Jvm.ClassFile.FieldType)).before args0 about1 = true := code_word (m := ⟨8, 0⟩) (meth := k8m0) (c := k8c0) (by decide +kernel) rfl rfl rfl (by decide +kernel)
set_option maxRecDepth 65536 in
theorem w_c6 : (Jvm.Cond.code ({ cls := "java/lang/String", name := "length", desc := "()I" } : Jvm.MethodName) jdk_42_method_54_code (1 : Nat) (Option.some Jvm.ClassFile.FieldType.int)).before args0 about1 = true := code_word (m := ⟨7, 2⟩) (meth := k7m2) (c := k7c2) (by decide +kernel) rfl rfl rfl (by decide +kernel)
set_option maxRecDepth 65536 in
theorem w_c7 : (Jvm.Cond.code ({ cls := "java/lang/String", name := "coder", desc := "()B" } : Jvm.MethodName) jdk_42_method_152_code (1 : Nat) (Option.some Jvm.ClassFile.FieldType.byte)).before args0 about1 = true := code_word (m := ⟨7, 4⟩) (meth := k7m4) (c := k7c4) (by decide +kernel) rfl rfl rfl (by decide +kernel)
set_option maxRecDepth 65536 in
theorem w_c8 : (Jvm.Cond.code ({ cls := "com/example/rules_for_records/rulesforrecords/regex/Input", name := "atEnd", desc := "(IZ)Z" } : Jvm.MethodName) prog_77_method_4_code (3 : Nat) (Option.some Jvm.ClassFile.FieldType.boolean)).before args0 about1 = true := code_word (m := ⟨8, 1⟩) (meth := k8m1) (c := k8c1) (by decide +kernel) rfl rfl rfl (by decide +kernel)
set_option maxRecDepth 65536 in
theorem w_c9 : (Jvm.Cond.code ({ cls := "java/lang/StringUTF16", name := "compress", desc := "([CII)[B" } : Jvm.MethodName) jdk_52_method_16_code (6 : Nat) (Option.some (Jvm.ClassFile.FieldType.array Jvm.ClassFile.FieldType.byte))).before args0 about1 = true := code_word (m := ⟨9, 7⟩) (meth := k9m7) (c := k9c7) (by decide +kernel) rfl rfl rfl (by decide +kernel)
set_option maxRecDepth 65536 in
theorem w_c10 : (Jvm.Cond.code ({ cls := "java/lang/StringUTF16", name := "compress", desc := "([CI[BII)I" } : Jvm.MethodName) jdk_52_method_21_code (7 : Nat) (Option.some Jvm.ClassFile.FieldType.int)).before args0 about1 = true := code_word (m := ⟨9, 8⟩) (meth := k9m8) (c := k9c8) (by decide +kernel) rfl rfl rfl (by decide +kernel)
set_option maxRecDepth 65536 in
theorem w_c11 : (Jvm.Cond.code ({ cls := "java/lang/StringUTF16", name := "coderFromArrayLen", desc := "([BI)B" } : Jvm.MethodName) jdk_52_method_15_code (2 : Nat) (Option.some Jvm.ClassFile.FieldType.byte)).before args0 about1 = true := code_word (m := ⟨9, 6⟩) (meth := k9m6) (c := k9c6) (by decide +kernel) rfl rfl rfl (by decide +kernel)
set_option maxRecDepth 65536 in
theorem w_c12 : (Jvm.Cond.code ({ cls := "java/lang/StringUTF16", name := "toBytes", desc := "([CII)[B" } : Jvm.MethodName) jdk_52_method_14_code (5 : Nat) (Option.some (Jvm.ClassFile.FieldType.array Jvm.ClassFile.FieldType.byte))).before args0 about1 = true := code_word (m := ⟨9, 5⟩) (meth := k9m5) (c := k9c5) (by decide +kernel) rfl rfl rfl (by decide +kernel)
set_option maxRecDepth 65536 in
theorem w_c13 : (Jvm.Cond.code ({ cls := "java/lang/StringUTF16", name := "newBytesFor", desc := "(I)[B" } : Jvm.MethodName) jdk_52_method_2_code (1 : Nat) (Option.some (Jvm.ClassFile.FieldType.array Jvm.ClassFile.FieldType.byte))).before args0 about1 = true := code_word (m := ⟨9, 1⟩) (meth := k9m1) (c := k9c1) (by decide +kernel) rfl rfl rfl (by decide +kernel)
set_option maxRecDepth 65536 in
theorem w_c14 : (Jvm.Cond.code ({ cls := "java/lang/StringUTF16", name := "newBytesLength", desc := "(I)I" } : Jvm.MethodName) jdk_52_method_3_code (1 : Nat) (Option.some Jvm.ClassFile.FieldType.int)).before args0 about1 = true := code_word (m := ⟨9, 2⟩) (meth := k9m2) (c := k9c2) (by decide +kernel) rfl rfl rfl (by decide +kernel)
set_option maxRecDepth 65536 in
theorem w_c15 : (Jvm.Cond.code ({ cls := "java/lang/StringUTF16", name := "putChar", desc := "([BII)V" } : Jvm.MethodName) jdk_52_method_4_code (3 : Nat) (Option.none : Option Jvm.ClassFile.FieldType)).before args0 about1 = true := code_word (m := ⟨9, 3⟩) (meth := k9m3) (c := k9c3) (by decide +kernel) rfl rfl rfl (by decide +kernel)
set_option maxRecDepth 65536 in
theorem w_c16 : (Jvm.Cond.code ({ cls := "java/lang/StringUTF16", name := "getChar", desc := "([BI)C" } : Jvm.MethodName) jdk_52_method_5_code (2 : Nat) (Option.some Jvm.ClassFile.FieldType.char)).before args0 about1 = true := code_word (m := ⟨9, 4⟩) (meth := k9m4) (c := k9c4) (by decide +kernel) rfl rfl rfl (by decide +kernel)
def codes1 : List Jvm.Cond := [Jvm.Cond.code x code maxLocals ret, Jvm.Cond.code ({ cls := "com/example/rules_for_records/rulesforrecords/regex/InputAtEndPinLaw", name := "make", desc := "(IJ)Ljava/lang/String;" } : Jvm.MethodName) method_3_code (6 : Nat) (Option.some (Jvm.ClassFile.FieldType.object "java/lang/String")), Jvm.Cond.code ({ cls := "java/lang/String", name := "<init>", desc := "([C)V" } : Jvm.MethodName) jdk_42_method_3_code (2 : Nat) (Option.none : Option Jvm.ClassFile.FieldType), Jvm.Cond.code ({ cls := "java/lang/String", name := "<init>", desc := "([CIILjava/lang/Void;)V" } : Jvm.MethodName) jdk_42_method_149_code (6 : Nat) (Option.none : Option Jvm.ClassFile.FieldType), Jvm.Cond.code ({ cls := "java/lang/Object", name := "<init>", desc := "()V" } : Jvm.MethodName) object_method_1_code (1 : Nat) (Option.none : Option Jvm.ClassFile.FieldType), Jvm.Cond.code ({ cls := "com/example/rules_for_records/rulesforrecords/regex/Input", name := "<init>", desc := "(Ljava/lang/String;J)V" } : Jvm.MethodName) prog_77_method_1_code (4 : Nat) (Option.none : Option Jvm.ClassFile.FieldType), Jvm.Cond.code ({ cls := "java/lang/String", name := "length", desc := "()I" } : Jvm.MethodName) jdk_42_method_54_code (1 : Nat) (Option.some Jvm.ClassFile.FieldType.int), Jvm.Cond.code ({ cls := "java/lang/String", name := "coder", desc := "()B" } : Jvm.MethodName) jdk_42_method_152_code (1 : Nat) (Option.some Jvm.ClassFile.FieldType.byte), Jvm.Cond.code ({ cls := "com/example/rules_for_records/rulesforrecords/regex/Input", name := "atEnd", desc := "(IZ)Z" } : Jvm.MethodName) prog_77_method_4_code (3 : Nat) (Option.some Jvm.ClassFile.FieldType.boolean), Jvm.Cond.code ({ cls := "java/lang/StringUTF16", name := "compress", desc := "([CII)[B" } : Jvm.MethodName) jdk_52_method_16_code (6 : Nat) (Option.some (Jvm.ClassFile.FieldType.array Jvm.ClassFile.FieldType.byte)), Jvm.Cond.code ({ cls := "java/lang/StringUTF16", name := "compress", desc := "([CI[BII)I" } : Jvm.MethodName) jdk_52_method_21_code (7 : Nat) (Option.some Jvm.ClassFile.FieldType.int), Jvm.Cond.code ({ cls := "java/lang/StringUTF16", name := "coderFromArrayLen", desc := "([BI)B" } : Jvm.MethodName) jdk_52_method_15_code (2 : Nat) (Option.some Jvm.ClassFile.FieldType.byte), Jvm.Cond.code ({ cls := "java/lang/StringUTF16", name := "toBytes", desc := "([CII)[B" } : Jvm.MethodName) jdk_52_method_14_code (5 : Nat) (Option.some (Jvm.ClassFile.FieldType.array Jvm.ClassFile.FieldType.byte)), Jvm.Cond.code ({ cls := "java/lang/StringUTF16", name := "newBytesFor", desc := "(I)[B" } : Jvm.MethodName) jdk_52_method_2_code (1 : Nat) (Option.some (Jvm.ClassFile.FieldType.array Jvm.ClassFile.FieldType.byte)), Jvm.Cond.code ({ cls := "java/lang/StringUTF16", name := "newBytesLength", desc := "(I)I" } : Jvm.MethodName) jdk_52_method_3_code (1 : Nat) (Option.some Jvm.ClassFile.FieldType.int), Jvm.Cond.code ({ cls := "java/lang/StringUTF16", name := "putChar", desc := "([BII)V" } : Jvm.MethodName) jdk_52_method_4_code (3 : Nat) (Option.none : Option Jvm.ClassFile.FieldType), Jvm.Cond.code ({ cls := "java/lang/StringUTF16", name := "getChar", desc := "([BI)C" } : Jvm.MethodName) jdk_52_method_5_code (2 : Nat) (Option.some Jvm.ClassFile.FieldType.char)]
set_option maxRecDepth 65536 in
theorem codes_eq : words1.filter isCode = codes1 := rfl
theorem w_codes : ∀ c ∈ words1.filter isCode, c.before args0 about1 = true := by
  rw [codes_eq]
  intro c hc
  simp only [codes1, List.mem_cons, List.not_mem_nil, or_false] at hc
  rcases hc with rfl | rfl | rfl | rfl | rfl | rfl | rfl | rfl | rfl | rfl | rfl | rfl | rfl | rfl | rfl | rfl | rfl
  · exact w_c0
  · exact w_c1
  · exact w_c2
  · exact w_c3
  · exact w_c4
  · exact w_c5
  · exact w_c6
  · exact w_c7
  · exact w_c8
  · exact w_c9
  · exact w_c10
  · exact w_c11
  · exact w_c12
  · exact w_c13
  · exact w_c14
  · exact w_c15
  · exact w_c16
set_option maxRecDepth 65536 in
theorem w_t1 : (words1.take 24).all (fun c => isCode c || c.before args0 about1) = true := by decide +kernel
set_option maxRecDepth 65536 in
theorem w_t2 : ((words1.drop 24).take 24).all (fun c => isCode c || c.before args0 about1) = true := by decide +kernel
set_option maxRecDepth 65536 in
theorem w_t3 : (((words1.drop 24).drop 24).take 24).all (fun c => isCode c || c.before args0 about1) = true := by decide +kernel
set_option maxRecDepth 65536 in
theorem w_t4 : (((words1.drop 24).drop 24).drop 24).all (fun c => isCode c || c.before args0 about1) = true := by decide +kernel
theorem w_tables : (allAtoms (Jvm.Cond.code x code maxLocals ret :: tables_1)).before args0 about1 = true := by
  rw [allAtoms_all]
  show words1.all (fun c => c.before args0 about1) = true
  refine all_split ?_ w_codes
  rw [← List.take_append_drop 24 words1, List.all_append, w_t1, ← List.take_append_drop 24 (words1.drop 24), List.all_append, w_t2, ← List.take_append_drop 24 ((words1.drop 24).drop 24), List.all_append, w_t3, w_t4]
  rfl
set_option maxRecDepth 65536 in
theorem w_rest : rest_1_c.before args0 about1 = true := by decide +kernel
set_option maxRecDepth 65536 in
theorem w_case : (Jvm.Cond.and given_1 narrow_1).before args0 about1 = true := by decide +kernel
set_option maxRecDepth 65536 in
theorem w_consts : constsHeld consts_1 about1 := Jvm.Lit.constsHeldB_iff.mp (by decide +kernel)
theorem w_applies : (headSpec (Jvm.Cond.code x code maxLocals ret :: tables_1) room_1).applies x e0.platform about1 = true :=
  (Spec.applies_iff w_frames).mpr ⟨w_running, w_runnable, w_alone, w_named, w_hears, w_ripe, w_room, w_tables⟩
theorem atStart : AtStart classFile x code maxLocals ret World_1 tables_1 room_1 Calls_1 rest_1 Pre_1 launch0 p0 e0 about1 theMethod args0 below0 :=
  ⟨lists_1, trivial, launch0.admits_env _ _ _, launch0.least_env, fairChoices_fair.cas, fairChoices_fair.clock, w_frames, w_args, w_heap, w_applies, ⟨w_consts, trivial⟩, w_rest, w_case⟩
end start1
theorem witness_1 : WitnessClaimed_1 := ⟨start1.p0, start1.e0, start1.about1, start1.theMethod, start1.args0, start1.below0, start1.atStart⟩
end Jvm.Pilot.@@N@@
