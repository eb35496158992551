import JvmDerived
import JvmDerived.Pilot.@@N@@Statement
import JvmDerived.Pilot.@@N@@Code
set_option linter.unusedVariables false
set_option linter.unusedSimpArgs false
namespace Jvm.RoadKit
open Sem ClassFile Op Lib Jvm.Stand Jvm.Free Jvm.LawKit
section Own
variable {p : Program} {l : Launch} {e : Env} {R : Room} {s : State} {m : MethodId} {args : Array Value} {below : List Frame} {meth : Method} {c : Code} {T : State} {locs : List Loc} {cells slots : Nat} {Z : State} {h h' : Heap} {a b : Addr}
/-- from the state U the method runs to its end, and what it leaves is as G says -/
def own_Go (p : Program) (e : Env) (below : List Frame) (G : Outcome → State → Prop) (U : State) : Prop := ∃ s₂ o, Steps p.tables e below U s₂ ∧ s₂.status = .running ∧ Ended s₂ below o ∧ G o s₂
def own_G (s : State) (Q : Option Value → Heap → List Loc → Prop) (C N : Nat) : Outcome → State → Prop := fun o U' => ∃ v L, o = .returned v ∧ Q v U'.heap L ∧ FrameEnd s o U' L C N
theorem own_st {G : Outcome → State → Prop} {U V : State} (hs : ∀ t, Steps p.tables e below V t → Steps p.tables e below U t) (k : own_Go p e below G V) : own_Go p e below G U := by
  obtain ⟨s₂, o, h1, h2⟩ := k
  exact ⟨s₂, o, hs _ h1, h2⟩
theorem own_retI (X : Stand p l e R s m args below meth c T locs cells slots) (hx : p.tables.exec = Jvm.exec) (hlocks : meth.locks = false) {pc : Nat} {Ls : Array Slot} {z : Int32} {rest : List Value} (hret : meth.sig.returnType = some .int) (hd : decode c.code pc = .ok (.ireturn, 1)) {Q : Option Value → Heap → List Loc → Prop} {C N : Nat}
    (hQ : Q (some (.int z)) T.heap locs) (hC : cells ≤ C) (hN : slots ≤ N) : own_Go p e below (own_G s Q C N) (T.setTop (mkF m pc Ls (.int z :: rest))) := by
  obtain ⟨fs, hr, hrun, hended, hW, hsame⟩ := X.leave (v := some (.int z)) (fun h => by rw [hret] at h; cases h)
  refine ⟨_, _, ?_, hrun, hended, _, _, rfl, hQ, ⟨_, rfl⟩, hW, hsame.mono hC hN⟩
  have hm' : T.vm.method? m = some meth := X.method'
  have hn : narrow .int (.int z) = .int z := rfl
  show Steps p.tables e below (T.setTop { method := m, pc := pc, locals := Ls, stack := _ :: rest, locked := none }) _
  jvm_step X.here [X.here.top, hx, hd, hm', hret, hn]
  first | (intro acts; rw [hr _ acts rfl rfl rfl]) | rw [hr _ _ rfl rfl rfl]
  exact Steps.refl _
theorem own_retN (X : Stand p l e R s m args below meth c T locs cells slots) (hx : p.tables.exec = Jvm.exec) (hlocks : meth.locks = false) {pc : Nat} {Ls : Array Slot} {z z' : Int32} {t : FieldType} {rest : List Value} (hret : meth.sig.returnType = some t) (ht : t = .boolean ∨ t = .byte ∨ t = .char ∨ t = .short) (hz : nar t z = z') (hd : decode c.code pc = .ok (.ireturn, 1)) {Q : Option Value → Heap → List Loc → Prop} {C N : Nat}
    (hQ : Q (some (.int z')) T.heap locs) (hC : cells ≤ C) (hN : slots ≤ N) : own_Go p e below (own_G s Q C N) (T.setTop (mkF m pc Ls (.int z :: rest))) := by
  subst hz
  obtain ⟨fs, hr, hrun, hended, hW, hsame⟩ := X.leave (v := some (.int (nar t z))) (fun h => by rw [hret] at h; cases h)
  exact ⟨_, _, retN X hx hret ht hd hr, hrun, hended, _, _, rfl, hQ, ⟨_, rfl⟩, hW, hsame.mono hC hN⟩
theorem own_retJ (X : Stand p l e R s m args below meth c T locs cells slots) (hx : p.tables.exec = Jvm.exec) (hlocks : meth.locks = false) {pc : Nat} {Ls : Array Slot} {z : Int64} (hret : meth.sig.returnType = some .long) (hd : decode c.code pc = .ok (.lreturn, 1)) {Q : Option Value → Heap → List Loc → Prop} {C N : Nat}
    (hQ : Q (some (.long z)) T.heap locs) (hC : cells ≤ C) (hN : slots ≤ N) : own_Go p e below (own_G s Q C N) (T.setTop (mkF m pc Ls [.long z])) := by
  obtain ⟨fs, hr, hrun, hended, hW, hsame⟩ := X.leave (v := some (.long z)) (fun h => by rw [hret] at h; cases h)
  exact ⟨_, _, X.lreturnOut hx hret hd hr, hrun, hended, _, _, rfl, hQ, ⟨_, rfl⟩, hW, hsame.mono hC hN⟩
theorem own_ret0 (X : Stand p l e R s m args below meth c T locs cells slots) (hx : p.tables.exec = Jvm.exec) (hlocks : meth.locks = false) {pc : Nat} {Ls : Array Slot} (hret : meth.sig.returnType = none) (hd : decode c.code pc = .ok (.return_, 1)) {Q : Option Value → Heap → List Loc → Prop} {C N : Nat}
    (hQ : Q none T.heap locs) (hC : cells ≤ C) (hN : slots ≤ N) : own_Go p e below (own_G s Q C N) (T.setTop (mkF m pc Ls [])) := by
  obtain ⟨fs, hr, hrun, hended, hW, hsame⟩ := X.leave (v := none) (fun _ => rfl)
  exact ⟨_, _, X.returnOut hx hret hd hr, hrun, hended, _, _, rfl, hQ, ⟨_, rfl⟩, hW, hsame.mono hC hN⟩
theorem own_cast {locs' : List Loc} {cells' slots' : Nat} (X : Stand p l e R s m args below meth c T locs cells slots) (e1 : locs = locs') (e2 : cells = cells') (e3 : slots = slots') : Stand p l e R s m args below meth c T locs' cells' slots' := by
  subst e1 e2 e3; exact X
theorem own_z0 {i j : Nat} (q : i = 0) : i ≤ j := q ▸ Nat.zero_le j
/-! arrays of ints (or bytes), of longs: their length and their elements by a plain function -/
def own_Ai (Z : State) (h : Heap) (a : Addr) (ty : FieldType) (n : Nat) (f : Nat → Int32) : Prop := ∃ c : Cell, Arr Z h a c ty ∧ c.slots.size = n ∧ ∀ i, i < n → c.slots[i]? = some (.int (f i))
def own_Aj (Z : State) (h : Heap) (a : Addr) (ty : FieldType) (n : Nat) (f : Nat → Int64) : Prop := ∃ c : Cell, Arr Z h a c ty ∧ c.slots.size = n ∧ ∀ i, i < n → c.slots[i]? = some (.long (f i))
def own_up (f : Nat → Int32) (k : Nat) (x : Int32) : Nat → Int32 := fun i => if i = k then x else f i
def own_upJ (f : Nat → Int64) (k : Nat) (x : Int64) : Nat → Int64 := fun i => if i = k then x else f i
theorem own_up_at (f : Nat → Int32) (k : Nat) (x : Int32) (i : Nat) : own_up f k x i = if i = k then x else f i := rfl
theorem own_upJ_at (f : Nat → Int64) (k : Nat) (x : Int64) (i : Nat) : own_upJ f k x i = if i = k then x else f i := rfl
variable {ty : FieldType} {n : Nat} {f : Nat → Int32} {fj : Nat → Int64} {ws : List Addr} {sl : Nat} {v : Value}
theorem own_Ai.lt (F : own_Ai Z h a ty n f) : a < h.size := by obtain ⟨c, A, -⟩ := F; exact A.lt
theorem own_Aj.lt (F : own_Aj Z h a ty n fj) : a < h.size := by obtain ⟨c, A, -⟩ := F; exact A.lt
theorem own_Ai.ext (F : own_Ai Z h a ty n f) (E : Ext h h') : own_Ai Z h' a ty n f := by obtain ⟨c, A, r⟩ := F; exact ⟨c, A.ext E, r⟩
theorem own_Aj.ext (F : own_Aj Z h a ty n fj) (E : Ext h h') : own_Aj Z h' a ty n fj := by obtain ⟨c, A, r⟩ := F; exact ⟨c, A.ext E, r⟩
theorem own_Ai.other (F : own_Ai Z h b ty n f) (W : Wr h h' a sl v) (q : b ≠ a) : own_Ai Z h' b ty n f := by obtain ⟨c, A, r⟩ := F; exact ⟨c, A.other W q, r⟩
theorem own_Aj.other (F : own_Aj Z h b ty n fj) (W : Wr h h' a sl v) (q : b ≠ a) : own_Aj Z h' b ty n fj := by obtain ⟨c, A, r⟩ := F; exact ⟨c, A.other W q, r⟩
theorem own_Ai.keep (F : own_Ai Z h a ty n f) (K : Keep h h' ws) (q : a ∉ ws) : own_Ai Z h' a ty n f := by obtain ⟨c, A, r⟩ := F; exact ⟨c, ⟨K.2.1 a c A.1 q, A.2⟩, r⟩
theorem own_Aj.keep (F : own_Aj Z h a ty n fj) (K : Keep h h' ws) (q : a ∉ ws) : own_Aj Z h' a ty n fj := by obtain ⟨c, A, r⟩ := F; exact ⟨c, ⟨K.2.1 a c A.1 q, A.2⟩, r⟩
theorem own_Ai.neq {a0 : Array Value} {k : Nat} {C : String} (F : own_Ai Z h b ty n f) (E : Exa Z h a C) (wi : (Cond.instantiable C k).before a0 Z = true) : a ≠ b := by obtain ⟨c, A, -⟩ := F; exact ne_arr E wi A
theorem own_Aj.neq {a0 : Array Value} {k : Nat} {C : String} (F : own_Aj Z h b ty n fj) (E : Exa Z h a C) (wi : (Cond.instantiable C k).before a0 Z = true) : a ≠ b := by obtain ⟨c, A, -⟩ := F; exact ne_arr E wi A
theorem own_nat {j : Int32} {k : Nat} (hj : j.toInt = k) : j.toNatClampNeg = k := by simp only [Int32.toNatClampNeg, hj]; rfl
theorem own_in {j : Int32} {k n : Nat} (hj : j.toInt = k) (hk : k < n) : ¬ (j < 0 ∨ n ≤ j.toNatClampNeg) := by
  rw [own_nat hj, Int32.lt_iff_toInt_lt, hj, show (0 : Int32).toInt = 0 from rfl]; omega
theorem own_len {z : Int32} (hz : z.toInt = n) : n.toInt32 = z := by
  have := Int32.toInt_lt z
  exact Int32.toInt_inj.mp (by rw [Int32.toInt_ofNat_small (by omega), hz])
theorem own_iaload (X : Stand p l e R s m args below meth c T locs cells slots) (hx : p.tables.exec = Jvm.exec) (hZ : Z.Warmed39 s.vm) (eT : T.heap = h) (A : own_Ai Z h a .int n f) {j : Int32} {k : Nat} (hj : j.toInt = k) (hk : k < n) {g : JFrame} (hg : g.method = m) {rest : List Value} (hs : g.stack = .int j :: .ref a :: rest) (hd : decode c.code g.pc = .ok (.iaload, 1)) {target : State}
    (hr : Steps p.tables e below (T.setTop { g with pc := g.pc + 1, stack := .int (f k) :: rest }) target) : Steps p.tables e below (T.setTop g) target := by
  obtain ⟨cl, A, S, H⟩ := A
  exact X.iaload hx (j := j) (v := .int (f k)) (by rw [eT]; exact A.1) (State.isArrayOf_alike hZ.alike A.2.1) A.2.2 (by rw [S]; exact own_in hj hk) (by rw [own_nat hj]; exact H k hk) hg hs hd _ hr
theorem own_baload (X : Stand p l e R s m args below meth c T locs cells slots) (hx : p.tables.exec = Jvm.exec) (hZ : Z.Warmed39 s.vm) (eT : T.heap = h) (A : own_Ai Z h a .byte n f) {j : Int32} {k : Nat} (hj : j.toInt = k) (hk : k < n) {g : JFrame} (hg : g.method = m) {rest : List Value} (hs : g.stack = .int j :: .ref a :: rest) (hd : decode c.code g.pc = .ok (.baload, 1)) {target : State}
    (hr : Steps p.tables e below (T.setTop { g with pc := g.pc + 1, stack := .int (f k) :: rest }) target) : Steps p.tables e below (T.setTop g) target := by
  obtain ⟨cl, A, S, H⟩ := A
  exact X.baloadBytes hx (j := j) (v := .int (f k)) (by rw [eT]; exact A.1) (State.isArrayOf_alike hZ.alike A.2.1) A.2.2 (by rw [S]; exact own_in hj hk) (by rw [own_nat hj]; exact H k hk) hg hs hd _ hr
theorem own_laload (X : Stand p l e R s m args below meth c T locs cells slots) (hx : p.tables.exec = Jvm.exec) (hZ : Z.Warmed39 s.vm) (eT : T.heap = h) (A : own_Aj Z h a .long n fj) {j : Int32} {k : Nat} (hj : j.toInt = k) (hk : k < n) {g : JFrame} (hg : g.method = m) {rest : List Value} (hs : g.stack = .int j :: .ref a :: rest) (hd : decode c.code g.pc = .ok (.laload, 1)) {target : State}
    (hr : Steps p.tables e below (T.setTop { g with pc := g.pc + 1, stack := .long (fj k) :: rest }) target) : Steps p.tables e below (T.setTop g) target := by
  obtain ⟨cl, A, S, H⟩ := A
  exact X.laload hx (j := j) (v := .long (fj k)) (by rw [eT]; exact A.1) (State.isArrayOf_alike hZ.alike A.2.1) A.2.2 (by rw [S]; exact own_in hj hk) (by rw [own_nat hj]; exact H k hk) hg hs hd _ hr
theorem own_alen (X : Stand p l e R s m args below meth c T locs cells slots) (hx : p.tables.exec = Jvm.exec) (hZ : Z.Warmed39 s.vm) (eT : T.heap = h) (A : own_Ai Z h a ty n f) {z : Int32} (hz : z.toInt = n) {g : JFrame} (hg : g.method = m) {rest : List Value} (hs : g.stack = .ref a :: rest) (hd : decode c.code g.pc = .ok (.arraylength, 1)) {target : State}
    (hr : Steps p.tables e below (T.setTop { g with pc := g.pc + 1, stack := .int z :: rest }) target) : Steps p.tables e below (T.setTop g) target := by
  obtain ⟨cl, A, S, H⟩ := A
  refine X.arraylength hx (by rw [eT]; exact A.1) (State.isArrayOf_alike hZ.alike A.2.1) hg hs hd _ ?_
  rw [S, own_len hz]; exact hr
theorem own_Ai.set (F : own_Ai Z h a ty n f) {j : Nat} {x : Int32} (W : Wr h h' a j (.int x)) : own_Ai Z h' a ty n (own_up f j x) := by
  obtain ⟨cl, A, S, H⟩ := F
  refine ⟨_, A.same W, by rw [sz_set]; exact S, fun i hi => ?_⟩
  rw [own_up_at]
  by_cases q : i = j
  · subst q
    rw [if_pos rfl]
    simp [Cell.setSlot, S, hi]
  · rw [if_neg q, show (cl.setSlot j (.int x)).slots[i]? = cl.slots[i]? from Array.getElem?_setIfInBounds_ne (Ne.symm q)]
    exact H i hi
theorem own_Aj.set (F : own_Aj Z h a ty n fj) {j : Nat} {x : Int64} (W : Wr h h' a j (.long x)) : own_Aj Z h' a ty n (own_upJ fj j x) := by
  obtain ⟨cl, A, S, H⟩ := F
  refine ⟨_, A.same W, by rw [sz_set]; exact S, fun i hi => ?_⟩
  rw [own_upJ_at]
  by_cases q : i = j
  · subst q
    rw [if_pos rfl]
    simp [Cell.setSlot, S, hi]
  · rw [if_neg q, show (cl.setSlot j (.long x)).slots[i]? = cl.slots[i]? from Array.getElem?_setIfInBounds_ne (Ne.symm q)]
    exact H i hi
theorem own_iastore (X : Stand p l e R s m args below meth c T locs cells slots) (hx : p.tables.exec = Jvm.exec) (hZ : Z.Warmed39 s.vm) (eT : T.heap = h) (A : own_Ai Z h a .int n f) {j x : Int32} {k : Nat} (hj : j.toInt = k) (hk : k < n) {g : JFrame} (hg : g.method = m) {rest : List Value} (hs : g.stack = .int x :: .int j :: .ref a :: rest) (hd : decode c.code g.pc = .ok (.iastore, 1)) :
    ∃ T' h', Stand p l e R s m args below meth c T' (locs ++ [⟨a, k⟩]) cells slots ∧ T'.heap = h' ∧ Wr h h' a k (.int x) ∧ own_Ai Z h' a .int n (own_up f k x) ∧ ∀ target, Steps p.tables e below (T'.setTop { g with pc := g.pc + 1, stack := rest }) target → Steps p.tables e below (T.setTop g) target := by
  obtain ⟨cl, B, S, H⟩ := id A
  obtain ⟨T', h', X', e', W, st⟩ := stI X hx hZ eT B (j := j) (x := x) (by rw [S]; exact own_in hj hk) hg hs hd
  rw [own_nat hj] at X' W
  exact ⟨T', h', X', e', W, A.set W, st⟩
theorem own_bastore (X : Stand p l e R s m args below meth c T locs cells slots) (hx : p.tables.exec = Jvm.exec) (hZ : Z.Warmed39 s.vm) (eT : T.heap = h) (A : own_Ai Z h a .byte n f) {j x : Int32} {k : Nat} (hj : j.toInt = k) (hk : k < n) {g : JFrame} (hg : g.method = m) {rest : List Value} (hs : g.stack = .int x :: .int j :: .ref a :: rest) (hd : decode c.code g.pc = .ok (.bastore, 1)) :
    ∃ T' h', Stand p l e R s m args below meth c T' (locs ++ [⟨a, k⟩]) cells slots ∧ T'.heap = h' ∧ Wr h h' a k (.int x.toInt8.toInt32) ∧ own_Ai Z h' a .byte n (own_up f k x.toInt8.toInt32) ∧ ∀ target, Steps p.tables e below (T'.setTop { g with pc := g.pc + 1, stack := rest }) target → Steps p.tables e below (T.setTop g) target := by
  obtain ⟨cl, B, S, H⟩ := id A
  obtain ⟨T', h', X', e', W, st⟩ := stB X hx hZ eT B (j := j) (x := x) (by rw [S]; exact own_in hj hk) hg hs hd
  rw [own_nat hj] at X' W
  exact ⟨T', h', X', e', W, A.set W, st⟩
theorem own_lastore (X : Stand p l e R s m args below meth c T locs cells slots) (hx : p.tables.exec = Jvm.exec) (hZ : Z.Warmed39 s.vm) (eT : T.heap = h) (A : own_Aj Z h a .long n fj) {j : Int32} {x : Int64} {k : Nat} (hj : j.toInt = k) (hk : k < n) {g : JFrame} (hg : g.method = m) {rest : List Value} (hs : g.stack = .long x :: .int j :: .ref a :: rest) (hd : decode c.code g.pc = .ok (.lastore, 1)) :
    ∃ T' h', Stand p l e R s m args below meth c T' (locs ++ [⟨a, k⟩]) cells slots ∧ T'.heap = h' ∧ Wr h h' a k (.long x) ∧ own_Aj Z h' a .long n (own_upJ fj k x) ∧ ∀ target, Steps p.tables e below (T'.setTop { g with pc := g.pc + 1, stack := rest }) target → Steps p.tables e below (T.setTop g) target := by
  obtain ⟨cl, B, S, H⟩ := id A
  obtain ⟨T', h', X', e', W, st⟩ := stJ X hx hZ eT B (j := j) (x := x) (by rw [S]; exact own_in hj hk) hg hs hd
  rw [own_nat hj] at X' W
  exact ⟨T', h', X', e', W, A.set W, st⟩
theorem own_newarr (X : Stand p l e R s m args below meth c T locs cells slots) (hx : p.tables.exec = Jvm.exec) (hZ : Z.Warmed39 s.vm) {a0 : Array Value} {aty : ArrayType} (w : (Cond.arrayClass (newarray.typeOf aty)).before a0 Z = true) (eT : T.heap = h) {g : JFrame} (hg : g.method = m) (hd : decode c.code g.pc = .ok (.newarray aty, 2)) {z : Int32} {rest : List Value} (hs : g.stack = .int z :: rest) {k : Nat}
    (hz : z.toInt = k) {cap : Nat} (hcap : k ≤ cap) (hb : cap * 8 ≤ 536870912) (hc : cells + 1 ≤ R.cells) (hl : slots + cap ≤ R.slots) :
    ∃ T' h' cl, Stand p l e R s m args below meth c T' locs (cells + 1) (slots + cap) ∧ T'.heap = h' ∧ Ext h h' ∧ (Arr Z h' h.size cl (newarray.typeOf aty) ∧ cl.slots = Array.replicate k (defaultValue (newarray.typeOf aty))) ∧
      ∀ target, Steps p.tables e below (T'.setTop { g with pc := g.pc + 2, stack := .ref h.size :: rest }) target → Steps p.tables e below (T.setTop g) target := by
  have hn : ¬ z < 0 := by rw [Int32.lt_iff_toInt_lt, hz, show (0 : Int32).toInt = 0 from rfl]; omega
  obtain ⟨T', h', cA, X', e', E, A, st⟩ := newP X hx hZ w eT hg hd hs hn (by rw [own_nat hz]; exact hcap) hb hc hl
  exact ⟨T', h', _, X', e', E, ⟨A, by simp [newA, own_nat hz]⟩, st⟩
theorem own_Ai.new {cl : Cell} {k : Nat} (A : Arr Z h a cl ty ∧ cl.slots = Array.replicate k (.int 0)) : own_Ai Z h a ty k (fun _ => 0) :=
  ⟨cl, A.1, by rw [A.2]; simp, fun i hi => by rw [A.2]; simp [hi]⟩
theorem own_Aj.new {cl : Cell} {k : Nat} (A : Arr Z h a cl ty ∧ cl.slots = Array.replicate k (.long 0)) : own_Aj Z h a ty k (fun _ => 0) :=
  ⟨cl, A.1, by rw [A.2]; simp, fun i hi => by rw [A.2]; simp [hi]⟩
theorem own_l_lt (x y : Int64) {b : Bool} (h : if_icmp.holds .lt (lcmpW x y) 0 = b) : ifCond.holds .lt (lcmpW x y) = b := (if0 _ _).trans h
end Own
end Jvm.RoadKit
namespace Jvm.RoadKit
open Sem ClassFile Op Lib Jvm.Stand Jvm.Free Jvm.LawKit
section OwnCopy
variable {p : Program} {l : Launch} {e : Env} {R : Room} {s : State} {m : MethodId} {args : Array Value} {below : List Frame} {meth : Method} {c : Code} {T : State} {locs : List Loc} {cells slots : Nat} {Z : State} {h h' : Heap} {a b : Addr} {n : Nat} {f f' : Nat → Int32}
theorem own_Ai.arv (F : own_Ai Z h a .int n f) {nn : Int32} (hn : nn.toInt = n) : ∃ k, Arv Z h a k .int nn ((List.range n).map fun i => .int (f i)) (.int 0) := by
  obtain ⟨cl, A, S, H⟩ := F
  have g : ∀ i, i < n → ((List.range n).map fun i => Value.int (f i)).getD i (.int 0) = .int (f i) := fun i hi => by simp [List.getD, hi]
  exact ⟨cl.cls, cl, A, rfl, by rw [S, own_nat hn], by rw [Int32.lt_iff_toInt_lt, hn, show (0 : Int32).toInt = 0 from rfl]; omega, fun i hi => by rw [g i (S ▸ hi)]; exact H i (S ▸ hi), fun i hi => by rw [g i (S ▸ hi)]; rfl⟩
theorem own_acopy (X : Stand p l e R s m args below meth c T locs cells slots) (hx : p.tables.exec = Jvm.exec) (hZ : Z.Warmed39 s.vm) {a0 : Array Value} {own : String} {index : Nat} (hown : s.vm.findClass own = some m.cls)
    (w1 : (Cond.methodLink own index Jvm.Stand.acN).before a0 Z = true) (w2 : (Cond.native Jvm.Stand.acN).before a0 Z = true) (w3 : (Cond.static Jvm.Stand.acN).before a0 Z = true) (w4 : (Cond.initialized "java/lang/System").before a0 Z = true) (eT : T.heap = h)
    (A : own_Ai Z h a .int n f) (B : own_Ai Z h b .int n f') {nn : Int32} (hn : nn.toInt = n) {n0 : Nat} (N : Fr n0 locs) (ge : n0 ≤ b)
    {g : JFrame} (hg : g.method = m) (hsize : g.locals.size = c.maxLocals) {rest : List Value} (hs : g.stack = .int nn :: .int 0 :: .ref b :: .int 0 :: .ref a :: rest) (hd : decode c.code g.pc = .ok (.invokestatic index, 3))
    (hf : 1 ≤ R.frames) {W : Nat} (hW : 2 * g.monitorRoom + (rest.map fun v => v.category).sum ≤ W) (hlo : W + (nativeFrameWords "java/lang/System" "arraycopy" 5 + 11) ≤ R.locals) :
    ∃ T' h' L, Stand p l e R s m args below meth c T' L cells slots ∧ T'.heap = h' ∧ Fr n0 L ∧ Keep h h' [b] ∧ own_Ai Z h' b .int n f ∧
      ∀ target, Steps p.tables e below (T'.setTop { g with pc := g.pc + 3, stack := rest }) target → Steps p.tables e below (T.setTop g) target := by
  obtain ⟨k, A'⟩ := A.arv hn
  obtain ⟨k', B'⟩ := B.arv hn
  have e0 : (0 : Int32).toNatClampNeg = 0 := rfl
  have en : nn.toNatClampNeg = n := own_nat hn
  have h3 : ¬ nn < 0 := by rw [Int32.lt_iff_toInt_lt, hn, show (0 : Int32).toInt = 0 from rfl]; omega
  obtain ⟨T', h', L, X', e', N', K', V, st⟩ := cpA X hx hZ hown w1 w2 w3 w4 eT A' B' (Or.inl ⟨rfl, rfl⟩) (sp := 0) (dp := 0) (nn := nn) (by decide) (by decide) h3 (by rw [e0, en]; omega) (by rw [e0, en]; omega) rfl (by rw [e0, en]; simp) N ge hg hsize hs hd hf hW hlo
  refine ⟨T', h', L, X', e', N', K', ?_, st⟩
  obtain ⟨cl, A1, -, S1, -, H1, -⟩ := V
  refine ⟨cl, A1, by rw [S1, en], fun i hi => ?_⟩
  rw [H1 i (by rw [S1, en]; exact hi), e0, en]
  simp [List.getD, hi]
end OwnCopy
end Jvm.RoadKit
namespace Jvm.RoadKit
open Sem ClassFile Op Lib Jvm.Stand Jvm.Free Jvm.LawKit
theorem own_selp {Z s : State} {a0 args : Array Value} {y : MethodName} {n : Nat} (hZ : Z.Warmed39 s.vm) (wi : (Cond.instantiable y.cls n).before a0 Z = true) (hp : (Cond.privateMethod y).before a0 Z = true) (hi : (Cond.instanceMethod y).before a0 Z = true) (hy : y.cls ≠ "java/lang/invoke/MethodHandle" ∧ y.cls ≠ "java/lang/invoke/VarHandle") : (Cond.selects y.cls y y).before args s = true := by
  obtain ⟨cl, k, h1, h2, -, h4, -⟩ := Cond.instantiable_spec (show (Cond.instantiable y.cls n).holds args s none s [] = true from mv hZ wi)
  exact Jvm.Stand.selects_self_of_private h1 h2 (Bool.or_eq_false_iff.mp h4).1 (Cond.privateMethod_at (mvP hZ hp (args := args))) (mv hZ hi) hy
end Jvm.RoadKit
namespace Jvm.Pilot.@@N@@
open Jvm Jvm.ClassFile Sem Op Lib Jvm.Free Jvm.Stand Jvm.LawKit Jvm.RoadKit Bundle Jvm.Pilot.@@N@@.Jvm.D
def own_b (u v : Int64) (a b : Int32) : Int32 := if u < v then 1 else if u = v then (if a < b then 1 else 0) else 0
def own_bf (fk : Nat → Int64) (a b : Int32) (ka kb : Nat) : Int32 := own_b (fk ka) (fk kb) a b
def own_min (a b : Int32) : Int32 := if b < a then b else a
theorem own_b10 (u v : Int64) : own_b u v 1 0 = if u < v then 1 else 0 := by
  unfold own_b; split
  · rfl
  · split <;> rfl
theorem own_b01 (u v : Int64) : own_b u v 0 1 = if v < u then 0 else 1 := by
  unfold own_b
  simp only [Int64.lt_iff_toInt_lt, ← Int64.toInt_inj]
  by_cases h1 : u.toInt < v.toInt
  · rw [if_pos h1, if_neg (show ¬ v.toInt < u.toInt by omega)]
  · rw [if_neg h1]
    by_cases h2 : u.toInt = v.toInt
    · rw [if_pos h2, if_pos (show (0 : Int32) < 1 by decide), if_neg (show ¬ v.toInt < u.toInt by omega)]
    · rw [if_neg h2, if_pos (show v.toInt < u.toInt by omega)]
theorem own_m2 (z : Int32) : z &&& 1 = 0 ∨ z &&& 1 = 1 := and_one z
theorem d1_0 : decode prog_11_method_1_code 0 = .ok (.aload_n 0, 1) := by decide +kernel
theorem d1_1 : decode prog_11_method_1_code 1 = .ok (.invokespecial 1, 3) := by decide +kernel
theorem d1_4 : decode prog_11_method_1_code 4 = .ok (.aload_n 0, 1) := by decide +kernel
theorem d1_5 : decode prog_11_method_1_code 5 = .ok (.iload_n 1, 1) := by decide +kernel
theorem d1_6 : decode prog_11_method_1_code 6 = .ok (.newarray .int, 2) := by decide +kernel
theorem d1_8 : decode prog_11_method_1_code 8 = .ok (.putfield 7, 3) := by decide +kernel
theorem d1_11 : decode prog_11_method_1_code 11 = .ok (.aload_n 0, 1) := by decide +kernel
theorem d1_12 : decode prog_11_method_1_code 12 = .ok (.iload_n 1, 1) := by decide +kernel
theorem d1_13 : decode prog_11_method_1_code 13 = .ok (.newarray .long, 2) := by decide +kernel
theorem d1_15 : decode prog_11_method_1_code 15 = .ok (.putfield 13, 3) := by decide +kernel
theorem d1_18 : decode prog_11_method_1_code 18 = .ok (.aload_n 0, 1) := by decide +kernel
theorem d1_19 : decode prog_11_method_1_code 19 = .ok (.iload_n 1, 1) := by decide +kernel
theorem d1_20 : decode prog_11_method_1_code 20 = .ok (.newarray .int, 2) := by decide +kernel
theorem d1_22 : decode prog_11_method_1_code 22 = .ok (.putfield 17, 3) := by decide +kernel
theorem d1_25 : decode prog_11_method_1_code 25 = .ok (.return_, 1) := by decide +kernel
theorem pn_1 : plainName "com/example/chainwright/chainwright/KeySort" = true := by first | (simp [plainName, overriddenIn]; done) | decide +kernel
theorem ef_1 (m : MethodId) (x0 : Addr) (x1 : Int32) : entryFrame m #[(.ref x0), (.int x1)] 2 = mkF m 0 #[.val (.ref x0), .val (.int x1)] [] := by first | (simp [entryFrame, mkF, argsToLocals, Value.category]; done) | rfl
def Q1 (Z : State) (ob : Addr) (xn : Int32) (h0 : Heap) (n0 : Nat) (v : Option Value) (h : Heap) (L : List Loc) : Prop := v = none ∧ Fr n0 L ∧ Keep h0 h [ob] ∧ ∃ (nu : Addr) (ke : Addr) (ro : Addr), (h0.size ≤ nu) ∧ (h0.size ≤ ke) ∧ (h0.size ≤ ro) ∧ (n0 ≤ nu) ∧ (n0 ≤ ke) ∧ (n0 ≤ ro) ∧ (nu ≠ ke) ∧ (nu ≠ ro) ∧ (ke ≠ ro) ∧ (Exa Z h ob "com/example/chainwright/chainwright/KeySort") ∧ (Fld Z h ob "com/example/chainwright/chainwright/KeySort" "numbers" "[I" (.ref nu)) ∧ (Fld Z h ob "com/example/chainwright/chainwright/KeySort" "keys" "[J" (.ref ke)) ∧ (Fld Z h ob "com/example/chainwright/chainwright/KeySort" "room" "[I" (.ref ro)) ∧ (own_Ai Z h nu .int 2 (fun _ => 0)) ∧ (own_Aj Z h ke .long 2 (fun _ => 0)) ∧ (own_Ai Z h ro .int 2 (fun _ => 0))
set_option maxRecDepth 65536 in
set_option maxHeartbeats 40000000 in
theorem rm1 (l : Launch) (Z : State) (a0 : Array Value) (hw : ∀ d ∈ tables_1, d.before a0 Z = true) (ws : List Jvm.Cond) (ob : Addr) (xn : Int32) (h0 : Heap) (n0 : Nat) (Z0 : n0 ≤ h0.size) (E1 : Exa Z h0 ob "com/example/chainwright/chainwright/KeySort") (F1 : Fld Z h0 ob "com/example/chainwright/chainwright/KeySort" "numbers" "[I" .null) (F2 : Fld Z h0 ob "com/example/chainwright/chainwright/KeySort" "keys" "[J" .null) (F3 : Fld Z h0 ob "com/example/chainwright/chainwright/KeySort" "room" "[I" .null) (G1 : n0 ≤ ob) (HZ : xn.toInt = ((2 : Nat) : Int)) :
    MetFree l (⟨"com/example/chainwright/chainwright/KeySort", "<init>", "(I)V"⟩ : MethodName) (head1 (Jvm.Cond.code (⟨"com/example/chainwright/chainwright/KeySort", "<init>", "(I)V"⟩ : MethodName) prog_11_method_1_code 2 none :: ws) ({ frames := 1, cells := 3, slots := 6, locals := 12 } : Room)) (fun a U => a = #[(.ref ob), (.int xn)] ∧ Z.Warmed39 U.vm ∧ U.heap = h0) (fun _ _ _ _ _ => True) (fun _ U o U' => ∃ v L, o = .returned v ∧ Q1 Z ob xn h0 n0 v U'.heap L ∧ FrameEnd U o U' L ({ frames := 1, cells := 3, slots := 6, locals := 12 } : Room).cells ({ frames := 1, cells := 3, slots := 6, locals := 12 } : Room).slots) := by
  refine MetFree.of_bodySF (plainFor_of_name pn_1) hisR ?_
  intro p e s m args below meth c s₁ Bd hml0 hP hK
  obtain ⟨rfl, hZ, hh⟩ := hP
  have hx := Bd.exec
  have hby := Bd.bytes
  have hlk : meth.locks = false := BodyLoose.notSynchronized Bd
  have hml : c.maxLocals = 2 := hml0
  have hown : s.vm.findClass "com/example/chainwright/chainwright/KeySort" = some m.cls := findClass_of_methodNamed Bd.named
  have hnm := (name_of_methodNamed Bd.named Bd.method).1
  have X0 : Stand p l e ({ frames := 1, cells := 3, slots := 6, locals := 12 } : Room) s m #[(.ref ob), (.int xn)] below meth c s₁ [] 0 0 := Stand.of_body Bd
  have e0 : s₁.heap = h0 := by rw [← hh, Bd.state]; rfl
  have N0 := Fr.nil n0
  have K0 : Keep h0 h0 [ob] := Keep.refl _ _
  show own_Go p e below (own_G s (Q1 Z ob xn h0 n0) ({ frames := 1, cells := 3, slots := 6, locals := 12 } : Room).cells ({ frames := 1, cells := 3, slots := 6, locals := 12 } : Room).slots) (s₁.setTop (entryFrame m #[(.ref ob), (.int xn)] 2))
  refine own_st (fun tgt k => castTop (ef_1 m ob xn) k) ?_
  show own_Go p e below _ (s₁.setTop (mkF m 0 #[.val (.ref ob), .val (.int xn)] []))
  refine own_st (V := s₁.setTop (mkF m 1 #[.val (.ref ob), .val (.int xn)] [(.ref ob)])) (fun tgt k => ?_) ?_
  · show Steps p.tables e below (s₁.setTop (mkF m 0 #[.val (.ref ob), .val (.int xn)] [])) tgt
    refine XS.aloadN X0.here hx rfl (hb hby d1_0) rfl rfl ?_
    exact k
  obtain ⟨T1, X1, e1, st1⟩ := initO X0 hx hZ hown (hw _ (List.mem_of_getElem? (i := 6) rfl)) (hw _ (List.mem_of_getElem? (i := 7) rfl)) (hw _ (List.mem_of_getElem? (i := 8) rfl)) e0 (g := (mkF m 1 #[.val (.ref ob), .val (.int xn)] [(.ref ob)])) rfl (by rw [hml]; rfl) rfl (hb hby d1_1) (by decide) (W := 0) (by show 2 * 0 + _ ≤ _; exact Nat.le_of_eq rfl) (by decide)
  refine own_st st1 ?_
  show own_Go p e below _ (T1.setTop (mkF m 4 #[.val (.ref ob), .val (.int xn)] []))
  refine own_st (V := T1.setTop (mkF m 6 #[.val (.ref ob), .val (.int xn)] [(.int xn), (.ref ob)])) (fun tgt k => ?_) ?_
  · show Steps p.tables e below (T1.setTop (mkF m 4 #[.val (.ref ob), .val (.int xn)] [])) tgt
    refine XS.aloadN X1.here hx rfl (hb hby d1_4) rfl rfl ?_
    show Steps p.tables e below (T1.setTop (mkF m 5 #[.val (.ref ob), .val (.int xn)] [(.ref ob)])) tgt
    refine XS.iloadN X1.here hx rfl (hb hby d1_5) rfl ?_
    exact k
  obtain ⟨T2, h2, c2, X2, e2, E2, A2, st2⟩ := own_newarr X1 hx hZ (hw _ (List.mem_of_getElem? (i := 9) rfl)) e1 (g := (mkF m 6 #[.val (.ref ob), .val (.int xn)] [(.int xn), (.ref ob)])) rfl (hb hby d1_6) rfl (k := 2) HZ (cap := 2) (by decide) (by decide) (by decide) (by decide)
  obtain ⟨nu, g2⟩ : ∃ z, z = h0.size := ⟨_, rfl⟩
  rw [← g2] at A2 st2
  have ne_ob_nu : ob ≠ nu := Nat.ne_of_lt (Nat.lt_of_lt_of_le E1.lt (Nat.le_of_eq g2.symm))
  have E_ob_2 := E1.ext E2
  have F_ob_numbers_2 := F1.ext E2
  have F_ob_keys_2 := F2.ext E2
  have F_ob_room_2 := F3.ext E2
  have g_nu : n0 ≤ nu := Nat.le_trans Z0 (Nat.le_of_eq g2.symm)
  have gs_nu : h0.size ≤ nu := Nat.le_trans K0.1 (Nat.le_of_eq g2.symm)
  have A_nu_2 : own_Ai Z h2 nu .int 2 (fun _ => 0) := own_Ai.new A2
  have Zs2 : n0 ≤ h2.size := Nat.le_trans Z0 E2.1
  have Kp2 := K0.ext E2
  refine own_st st2 ?_
  show own_Go p e below _ (T2.setTop (mkF m 8 #[.val (.ref ob), .val (.int xn)] [(.ref nu), (.ref ob)]))
  obtain ⟨T3, h3, X3, e3, W3, st3⟩ := putF X2 hx hZ hown (host := "") (Or.inl (hw _ (List.mem_of_getElem? (i := 10) rfl))) Via.refl e2 F_ob_numbers_2 E_ob_2 (Or.inr ⟨(hw _ (List.mem_of_getElem? (i := 11) rfl)), rfl, hnm⟩) (hw _ (List.mem_of_getElem? (i := 1) rfl)) (ty := (.array .int)) (by decide) rfl rfl (g := (mkF m 8 #[.val (.ref ob), .val (.int xn)] [(.ref nu), (.ref ob)])) rfl rfl (hb hby d1_8)
  have E_ob_3 := E_ob_2.wr W3
  have F_ob_keys_3 := Fld.other W3 F_ob_keys_2 (Or.inr (slot_ne (Or.inr (hw _ (List.mem_of_getElem? (i := 14) rfl))) (Or.inr (hw _ (List.mem_of_getElem? (i := 11) rfl))) (by decide) (t := (.array .long)) (t' := (.array .int)) (by decide) (by decide)))
  have F_ob_room_3 := Fld.other W3 F_ob_room_2 (Or.inr (slot_ne (Or.inr (hw _ (List.mem_of_getElem? (i := 16) rfl))) (Or.inr (hw _ (List.mem_of_getElem? (i := 11) rfl))) (by decide) (t := (.array .int)) (t' := (.array .int)) (by decide) (by decide)))
  have A_nu_3 := A_nu_2.other W3 (Ne.symm ne_ob_nu)
  have F_ob_numbers_3 := Fld.same W3 F_ob_numbers_2
  have N3 := Fr.snoc X3 N0 G1
  have Zs3 : n0 ≤ h3.size := Nat.le_trans Zs2 (Keep.of_wr W3).1
  have Kp3 := Kp2.wr W3 (Or.inl (List.mem_of_getElem? (i := 0) rfl))
  refine own_st st3 ?_
  show own_Go p e below _ (T3.setTop (mkF m 11 #[.val (.ref ob), .val (.int xn)] []))
  refine own_st (V := T3.setTop (mkF m 13 #[.val (.ref ob), .val (.int xn)] [(.int xn), (.ref ob)])) (fun tgt k => ?_) ?_
  · show Steps p.tables e below (T3.setTop (mkF m 11 #[.val (.ref ob), .val (.int xn)] [])) tgt
    refine XS.aloadN X3.here hx rfl (hb hby d1_11) rfl rfl ?_
    show Steps p.tables e below (T3.setTop (mkF m 12 #[.val (.ref ob), .val (.int xn)] [(.ref ob)])) tgt
    refine XS.iloadN X3.here hx rfl (hb hby d1_12) rfl ?_
    exact k
  obtain ⟨T4, h4, c4, X4, e4, E4, A4, st4⟩ := own_newarr X3 hx hZ (hw _ (List.mem_of_getElem? (i := 12) rfl)) e3 (g := (mkF m 13 #[.val (.ref ob), .val (.int xn)] [(.int xn), (.ref ob)])) rfl (hb hby d1_13) rfl (k := 2) HZ (cap := 2) (by decide) (by decide) (by decide) (by decide)
  obtain ⟨ke, g4⟩ : ∃ z, z = h3.size := ⟨_, rfl⟩
  rw [← g4] at A4 st4
  have ne_nu_ke : nu ≠ ke := Nat.ne_of_lt (Nat.lt_of_lt_of_le A_nu_3.lt (Nat.le_of_eq g4.symm))
  have ne_ob_ke : ob ≠ ke := Nat.ne_of_lt (Nat.lt_of_lt_of_le E_ob_3.lt (Nat.le_of_eq g4.symm))
  have E_ob_4 := E_ob_3.ext E4
  have F_ob_numbers_4 := F_ob_numbers_3.ext E4
  have F_ob_keys_4 := F_ob_keys_3.ext E4
  have F_ob_room_4 := F_ob_room_3.ext E4
  have A_nu_4 := A_nu_3.ext E4
  have g_ke : n0 ≤ ke := Nat.le_trans Zs3 (Nat.le_of_eq g4.symm)
  have gs_ke : h0.size ≤ ke := Nat.le_trans Kp3.1 (Nat.le_of_eq g4.symm)
  have A_ke_4 : own_Aj Z h4 ke .long 2 (fun _ => 0) := own_Aj.new A4
  have Zs4 : n0 ≤ h4.size := Nat.le_trans Zs3 E4.1
  have Kp4 := Kp3.ext E4
  refine own_st st4 ?_
  show own_Go p e below _ (T4.setTop (mkF m 15 #[.val (.ref ob), .val (.int xn)] [(.ref ke), (.ref ob)]))
  obtain ⟨T5, h5, X5, e5, W5, st5⟩ := putF X4 hx hZ hown (host := "") (Or.inl (hw _ (List.mem_of_getElem? (i := 13) rfl))) Via.refl e4 F_ob_keys_4 E_ob_4 (Or.inr ⟨(hw _ (List.mem_of_getElem? (i := 14) rfl)), rfl, hnm⟩) (hw _ (List.mem_of_getElem? (i := 1) rfl)) (ty := (.array .long)) (by decide) rfl rfl (g := (mkF m 15 #[.val (.ref ob), .val (.int xn)] [(.ref ke), (.ref ob)])) rfl rfl (hb hby d1_15)
  have E_ob_5 := E_ob_4.wr W5
  have F_ob_numbers_5 := Fld.other W5 F_ob_numbers_4 (Or.inr (slot_ne (Or.inr (hw _ (List.mem_of_getElem? (i := 11) rfl))) (Or.inr (hw _ (List.mem_of_getElem? (i := 14) rfl))) (by decide) (t := (.array .int)) (t' := (.array .long)) (by decide) (by decide)))
  have F_ob_room_5 := Fld.other W5 F_ob_room_4 (Or.inr (slot_ne (Or.inr (hw _ (List.mem_of_getElem? (i := 16) rfl))) (Or.inr (hw _ (List.mem_of_getElem? (i := 14) rfl))) (by decide) (t := (.array .int)) (t' := (.array .long)) (by decide) (by decide)))
  have A_nu_5 := A_nu_4.other W5 (Ne.symm ne_ob_nu)
  have A_ke_5 := A_ke_4.other W5 (Ne.symm ne_ob_ke)
  have F_ob_keys_5 := Fld.same W5 F_ob_keys_4
  have N5 := Fr.snoc X5 N3 G1
  have Zs5 : n0 ≤ h5.size := Nat.le_trans Zs4 (Keep.of_wr W5).1
  have Kp5 := Kp4.wr W5 (Or.inl (List.mem_of_getElem? (i := 0) rfl))
  refine own_st st5 ?_
  show own_Go p e below _ (T5.setTop (mkF m 18 #[.val (.ref ob), .val (.int xn)] []))
  refine own_st (V := T5.setTop (mkF m 20 #[.val (.ref ob), .val (.int xn)] [(.int xn), (.ref ob)])) (fun tgt k => ?_) ?_
  · show Steps p.tables e below (T5.setTop (mkF m 18 #[.val (.ref ob), .val (.int xn)] [])) tgt
    refine XS.aloadN X5.here hx rfl (hb hby d1_18) rfl rfl ?_
    show Steps p.tables e below (T5.setTop (mkF m 19 #[.val (.ref ob), .val (.int xn)] [(.ref ob)])) tgt
    refine XS.iloadN X5.here hx rfl (hb hby d1_19) rfl ?_
    exact k
  obtain ⟨T6, h6, c6, X6, e6, E6, A6, st6⟩ := own_newarr X5 hx hZ (hw _ (List.mem_of_getElem? (i := 9) rfl)) e5 (g := (mkF m 20 #[.val (.ref ob), .val (.int xn)] [(.int xn), (.ref ob)])) rfl (hb hby d1_20) rfl (k := 2) HZ (cap := 2) (by decide) (by decide) (by decide) (by decide)
  obtain ⟨ro, g6⟩ : ∃ z, z = h5.size := ⟨_, rfl⟩
  rw [← g6] at A6 st6
  have ne_ke_ro : ke ≠ ro := Nat.ne_of_lt (Nat.lt_of_lt_of_le A_ke_5.lt (Nat.le_of_eq g6.symm))
  have ne_nu_ro : nu ≠ ro := Nat.ne_of_lt (Nat.lt_of_lt_of_le A_nu_5.lt (Nat.le_of_eq g6.symm))
  have ne_ob_ro : ob ≠ ro := Nat.ne_of_lt (Nat.lt_of_lt_of_le E_ob_5.lt (Nat.le_of_eq g6.symm))
  have E_ob_6 := E_ob_5.ext E6
  have F_ob_numbers_6 := F_ob_numbers_5.ext E6
  have F_ob_keys_6 := F_ob_keys_5.ext E6
  have F_ob_room_6 := F_ob_room_5.ext E6
  have A_nu_6 := A_nu_5.ext E6
  have A_ke_6 := A_ke_5.ext E6
  have g_ro : n0 ≤ ro := Nat.le_trans Zs5 (Nat.le_of_eq g6.symm)
  have gs_ro : h0.size ≤ ro := Nat.le_trans Kp5.1 (Nat.le_of_eq g6.symm)
  have A_ro_6 : own_Ai Z h6 ro .int 2 (fun _ => 0) := own_Ai.new A6
  have Zs6 : n0 ≤ h6.size := Nat.le_trans Zs5 E6.1
  have Kp6 := Kp5.ext E6
  refine own_st st6 ?_
  show own_Go p e below _ (T6.setTop (mkF m 22 #[.val (.ref ob), .val (.int xn)] [(.ref ro), (.ref ob)]))
  obtain ⟨T7, h7, X7, e7, W7, st7⟩ := putF X6 hx hZ hown (host := "") (Or.inl (hw _ (List.mem_of_getElem? (i := 15) rfl))) Via.refl e6 F_ob_room_6 E_ob_6 (Or.inr ⟨(hw _ (List.mem_of_getElem? (i := 16) rfl)), rfl, hnm⟩) (hw _ (List.mem_of_getElem? (i := 1) rfl)) (ty := (.array .int)) (by decide) rfl rfl (g := (mkF m 22 #[.val (.ref ob), .val (.int xn)] [(.ref ro), (.ref ob)])) rfl rfl (hb hby d1_22)
  have E_ob_7 := E_ob_6.wr W7
  have F_ob_numbers_7 := Fld.other W7 F_ob_numbers_6 (Or.inr (slot_ne (Or.inr (hw _ (List.mem_of_getElem? (i := 11) rfl))) (Or.inr (hw _ (List.mem_of_getElem? (i := 16) rfl))) (by decide) (t := (.array .int)) (t' := (.array .int)) (by decide) (by decide)))
  have F_ob_keys_7 := Fld.other W7 F_ob_keys_6 (Or.inr (slot_ne (Or.inr (hw _ (List.mem_of_getElem? (i := 14) rfl))) (Or.inr (hw _ (List.mem_of_getElem? (i := 16) rfl))) (by decide) (t := (.array .long)) (t' := (.array .int)) (by decide) (by decide)))
  have A_nu_7 := A_nu_6.other W7 (Ne.symm ne_ob_nu)
  have A_ke_7 := A_ke_6.other W7 (Ne.symm ne_ob_ke)
  have A_ro_7 := A_ro_6.other W7 (Ne.symm ne_ob_ro)
  have F_ob_room_7 := Fld.same W7 F_ob_room_6
  have N7 := Fr.snoc X7 N5 G1
  have Zs7 : n0 ≤ h7.size := Nat.le_trans Zs6 (Keep.of_wr W7).1
  have Kp7 := Kp6.wr W7 (Or.inl (List.mem_of_getElem? (i := 0) rfl))
  refine own_st st7 ?_
  show own_Go p e below _ (T7.setTop (mkF m 25 #[.val (.ref ob), .val (.int xn)] []))
  refine own_ret0 X7 hx hlk Bd.returns (hb hby d1_25) ?_ (by decide) (by decide)
  show Q1 Z ob xn h0 n0 none T7.heap _
  rw [e7]
  exact ⟨rfl, N7, Kp7, nu, ke, ro, gs_nu, gs_ke, gs_ro, g_nu, g_ke, g_ro, ne_nu_ke, ne_nu_ro, ne_ke_ro, E_ob_7, F_ob_numbers_7, F_ob_keys_7, F_ob_room_7, A_nu_7, A_ke_7, A_ro_7⟩
theorem d3_0 : decode prog_11_method_2_code 0 = .ok (.aload_n 0, 1) := by decide +kernel
theorem d3_1 : decode prog_11_method_2_code 1 = .ok (.getfield 7, 3) := by decide +kernel
theorem d3_4 : decode prog_11_method_2_code 4 = .ok (.iload_n 1, 1) := by decide +kernel
theorem d3_5 : decode prog_11_method_2_code 5 = .ok (.iload_n 2, 1) := by decide +kernel
theorem d3_6 : decode prog_11_method_2_code 6 = .ok (.iastore, 1) := by decide +kernel
theorem d3_7 : decode prog_11_method_2_code 7 = .ok (.aload_n 0, 1) := by decide +kernel
theorem d3_8 : decode prog_11_method_2_code 8 = .ok (.getfield 13, 3) := by decide +kernel
theorem d3_11 : decode prog_11_method_2_code 11 = .ok (.iload_n 2, 1) := by decide +kernel
theorem d3_12 : decode prog_11_method_2_code 12 = .ok (.lload_n 3, 1) := by decide +kernel
theorem d3_13 : decode prog_11_method_2_code 13 = .ok (.lastore, 1) := by decide +kernel
theorem d3_14 : decode prog_11_method_2_code 14 = .ok (.return_, 1) := by decide +kernel
theorem pn_3 : plainName "com/example/chainwright/chainwright/KeySort" = true := by first | (simp [plainName, overriddenIn]; done) | decide +kernel
theorem ef_3 (m : MethodId) (x0 : Addr) (x1 : Int32) (x2 : Int32) (x3 : Int64) : entryFrame m #[(.ref x0), (.int x1), (.int x2), (.long x3)] 5 = mkF m 0 #[.val (.ref x0), .val (.int x1), .val (.int x2), .val (.long x3), .second] [] := by first | (simp [entryFrame, mkF, argsToLocals, Value.category]; done) | rfl
def Q3 (Z : State) (ob : Addr) (xi : Int32) (xv : Int32) (xk : Int64) (nu : Addr) (ke : Addr) (fn : Nat → Int32) (fk : Nat → Int64) (k1 : Nat) (k2 : Nat) (h0 : Heap) (n0 : Nat) (v : Option Value) (h : Heap) (L : List Loc) : Prop := v = none ∧ Fr n0 L ∧ Keep h0 h [nu, ke] ∧ (own_Ai Z h nu .int 2 (own_up fn k1 xv)) ∧ (own_Aj Z h ke .long 2 (own_upJ fk k2 xk))
set_option maxRecDepth 65536 in
set_option maxHeartbeats 40000000 in
theorem rm3 (l : Launch) (Z : State) (a0 : Array Value) (hw : ∀ d ∈ tables_1, d.before a0 Z = true) (ws : List Jvm.Cond) (ob : Addr) (xi : Int32) (xv : Int32) (xk : Int64) (nu : Addr) (ke : Addr) (fn : Nat → Int32) (fk : Nat → Int64) (k1 : Nat) (k2 : Nat) (h0 : Heap) (n0 : Nat) (Z0 : n0 ≤ h0.size) (F1 : Fld Z h0 ob "com/example/chainwright/chainwright/KeySort" "numbers" "[I" (.ref nu)) (F2 : Fld Z h0 ob "com/example/chainwright/chainwright/KeySort" "keys" "[J" (.ref ke)) (A1 : own_Ai Z h0 nu .int 2 fn) (A2 : own_Aj Z h0 ke .long 2 fk) (G1 : n0 ≤ nu) (G2 : n0 ≤ ke) (NE1 : nu ≠ ke) (NE2 : ob ≠ nu) (NE3 : ob ≠ ke) (I1 : xi.toInt = (k1 : Int)) (I2 : k1 < 2) (I3 : xv.toInt = (k2 : Int)) (I4 : k2 < 2) :
    MetFree l (⟨"com/example/chainwright/chainwright/KeySort", "put", "(IIJ)V"⟩ : MethodName) (head1 (Jvm.Cond.code (⟨"com/example/chainwright/chainwright/KeySort", "put", "(IIJ)V"⟩ : MethodName) prog_11_method_2_code 5 none :: ws) ({ frames := 0, cells := 0, slots := 0, locals := 0 } : Room)) (fun a U => a = #[(.ref ob), (.int xi), (.int xv), (.long xk)] ∧ Z.Warmed39 U.vm ∧ U.heap = h0) (fun _ _ _ _ _ => True) (fun _ U o U' => ∃ v L, o = .returned v ∧ Q3 Z ob xi xv xk nu ke fn fk k1 k2 h0 n0 v U'.heap L ∧ FrameEnd U o U' L ({ frames := 0, cells := 0, slots := 0, locals := 0 } : Room).cells ({ frames := 0, cells := 0, slots := 0, locals := 0 } : Room).slots) := by
  refine MetFree.of_bodySF (plainFor_of_name pn_3) hisR ?_
  intro p e s m args below meth c s₁ Bd hml0 hP hK
  obtain ⟨rfl, hZ, hh⟩ := hP
  have hx := Bd.exec
  have hby := Bd.bytes
  have hlk : meth.locks = false := BodyLoose.notSynchronized Bd
  have hml : c.maxLocals = 5 := hml0
  have hown : s.vm.findClass "com/example/chainwright/chainwright/KeySort" = some m.cls := findClass_of_methodNamed Bd.named
  have hnm := (name_of_methodNamed Bd.named Bd.method).1
  have X0 : Stand p l e ({ frames := 0, cells := 0, slots := 0, locals := 0 } : Room) s m #[(.ref ob), (.int xi), (.int xv), (.long xk)] below meth c s₁ [] 0 0 := Stand.of_body Bd
  have e0 : s₁.heap = h0 := by rw [← hh, Bd.state]; rfl
  have N0 := Fr.nil n0
  have K0 : Keep h0 h0 [nu, ke] := Keep.refl _ _
  show own_Go p e below (own_G s (Q3 Z ob xi xv xk nu ke fn fk k1 k2 h0 n0) ({ frames := 0, cells := 0, slots := 0, locals := 0 } : Room).cells ({ frames := 0, cells := 0, slots := 0, locals := 0 } : Room).slots) (s₁.setTop (entryFrame m #[(.ref ob), (.int xi), (.int xv), (.long xk)] 5))
  refine own_st (fun tgt k => castTop (ef_3 m ob xi xv xk) k) ?_
  show own_Go p e below _ (s₁.setTop (mkF m 0 #[.val (.ref ob), .val (.int xi), .val (.int xv), .val (.long xk), .second] []))
  refine own_st (V := s₁.setTop (mkF m 1 #[.val (.ref ob), .val (.int xi), .val (.int xv), .val (.long xk), .second] [(.ref ob)])) (fun tgt k => ?_) ?_
  · show Steps p.tables e below (s₁.setTop (mkF m 0 #[.val (.ref ob), .val (.int xi), .val (.int xv), .val (.long xk), .second] [])) tgt
    refine XS.aloadN X0.here hx rfl (hb hby d3_0) rfl rfl ?_
    exact k
  obtain ⟨T1, X1, e1, st1⟩ := getF X0 hx hZ hown (host := "") (Or.inl (hw _ (List.mem_of_getElem? (i := 10) rfl))) Via.refl e0 F1 (g := (mkF m 1 #[.val (.ref ob), .val (.int xi), .val (.int xv), .val (.long xk), .second] [(.ref ob)])) rfl rfl (hb hby d3_1)
  refine own_st st1 ?_
  show own_Go p e below _ (T1.setTop (mkF m 4 #[.val (.ref ob), .val (.int xi), .val (.int xv), .val (.long xk), .second] [(.ref nu)]))
  refine own_st (V := T1.setTop (mkF m 6 #[.val (.ref ob), .val (.int xi), .val (.int xv), .val (.long xk), .second] [(.int xv), (.int xi), (.ref nu)])) (fun tgt k => ?_) ?_
  · show Steps p.tables e below (T1.setTop (mkF m 4 #[.val (.ref ob), .val (.int xi), .val (.int xv), .val (.long xk), .second] [(.ref nu)])) tgt
    refine XS.iloadN X1.here hx rfl (hb hby d3_4) rfl ?_
    show Steps p.tables e below (T1.setTop (mkF m 5 #[.val (.ref ob), .val (.int xi), .val (.int xv), .val (.long xk), .second] [(.int xi), (.ref nu)])) tgt
    refine XS.iloadN X1.here hx rfl (hb hby d3_5) rfl ?_
    exact k
  obtain ⟨T2, h2, X2, e2, W2, A_nu_2, st2⟩ := own_iastore X1 hx hZ e1 A1 (j := xi) (k := k1) I1 I2 (g := (mkF m 6 #[.val (.ref ob), .val (.int xi), .val (.int xv), .val (.long xk), .second] [(.int xv), (.int xi), (.ref nu)])) rfl rfl (hb hby d3_6)
  have F_ob_numbers_2 := Fld.other W2 F1 (Or.inl NE2)
  have F_ob_keys_2 := Fld.other W2 F2 (Or.inl NE2)
  have A_ke_2 := A2.other W2 (Ne.symm NE1)
  have N2 := Fr.snoc X2 N0 G1
  have Zs2 : n0 ≤ h2.size := Nat.le_trans Z0 (Keep.of_wr W2).1
  have Kp2 := K0.wr W2 (Or.inl (List.mem_of_getElem? (i := 0) rfl))
  refine own_st st2 ?_
  show own_Go p e below _ (T2.setTop (mkF m 7 #[.val (.ref ob), .val (.int xi), .val (.int xv), .val (.long xk), .second] []))
  refine own_st (V := T2.setTop (mkF m 8 #[.val (.ref ob), .val (.int xi), .val (.int xv), .val (.long xk), .second] [(.ref ob)])) (fun tgt k => ?_) ?_
  · show Steps p.tables e below (T2.setTop (mkF m 7 #[.val (.ref ob), .val (.int xi), .val (.int xv), .val (.long xk), .second] [])) tgt
    refine XS.aloadN X2.here hx rfl (hb hby d3_7) rfl rfl ?_
    exact k
  obtain ⟨T3, X3, e3, st3⟩ := getF X2 hx hZ hown (host := "") (Or.inl (hw _ (List.mem_of_getElem? (i := 13) rfl))) Via.refl e2 F_ob_keys_2 (g := (mkF m 8 #[.val (.ref ob), .val (.int xi), .val (.int xv), .val (.long xk), .second] [(.ref ob)])) rfl rfl (hb hby d3_8)
  refine own_st st3 ?_
  show own_Go p e below _ (T3.setTop (mkF m 11 #[.val (.ref ob), .val (.int xi), .val (.int xv), .val (.long xk), .second] [(.ref ke)]))
  refine own_st (V := T3.setTop (mkF m 13 #[.val (.ref ob), .val (.int xi), .val (.int xv), .val (.long xk), .second] [(.long xk), (.int xv), (.ref ke)])) (fun tgt k => ?_) ?_
  · show Steps p.tables e below (T3.setTop (mkF m 11 #[.val (.ref ob), .val (.int xi), .val (.int xv), .val (.long xk), .second] [(.ref ke)])) tgt
    refine XS.iloadN X3.here hx rfl (hb hby d3_11) rfl ?_
    show Steps p.tables e below (T3.setTop (mkF m 12 #[.val (.ref ob), .val (.int xi), .val (.int xv), .val (.long xk), .second] [(.int xv), (.ref ke)])) tgt
    refine XS.lloadN X3.here hx rfl (hb hby d3_12) rfl ?_
    exact k
  obtain ⟨T4, h4, X4, e4, W4, A_ke_4, st4⟩ := own_lastore X3 hx hZ e3 A_ke_2 (j := xv) (k := k2) I3 I4 (g := (mkF m 13 #[.val (.ref ob), .val (.int xi), .val (.int xv), .val (.long xk), .second] [(.long xk), (.int xv), (.ref ke)])) rfl rfl (hb hby d3_13)
  have F_ob_numbers_4 := Fld.other W4 F_ob_numbers_2 (Or.inl NE3)
  have F_ob_keys_4 := Fld.other W4 F_ob_keys_2 (Or.inl NE3)
  have A_nu_4 := A_nu_2.other W4 NE1
  have N4 := Fr.snoc X4 N2 G2
  have Zs4 : n0 ≤ h4.size := Nat.le_trans Zs2 (Keep.of_wr W4).1
  have Kp4 := Kp2.wr W4 (Or.inl (List.mem_of_getElem? (i := 1) rfl))
  refine own_st st4 ?_
  show own_Go p e below _ (T4.setTop (mkF m 14 #[.val (.ref ob), .val (.int xi), .val (.int xv), .val (.long xk), .second] []))
  refine own_ret0 X4 hx hlk Bd.returns (hb hby d3_14) ?_ (by decide) (by decide)
  show Q3 Z ob xi xv xk nu ke fn fk k1 k2 h0 n0 none T4.heap _
  rw [e4]
  exact ⟨rfl, N4, Kp4, A_nu_4, A_ke_4⟩
theorem d4_0 : decode prog_11_method_4_code 0 = .ok (.aload_n 0, 1) := by decide +kernel
theorem d4_1 : decode prog_11_method_4_code 1 = .ok (.getfield 7, 3) := by decide +kernel
theorem d4_4 : decode prog_11_method_4_code 4 = .ok (.iload_n 1, 1) := by decide +kernel
theorem d4_5 : decode prog_11_method_4_code 5 = .ok (.iaload, 1) := by decide +kernel
theorem d4_6 : decode prog_11_method_4_code 6 = .ok (.ireturn, 1) := by decide +kernel
theorem pn_4 : plainName "com/example/chainwright/chainwright/KeySort" = true := by first | (simp [plainName, overriddenIn]; done) | decide +kernel
theorem ef_4 (m : MethodId) (x0 : Addr) (x1 : Int32) : entryFrame m #[(.ref x0), (.int x1)] 2 = mkF m 0 #[.val (.ref x0), .val (.int x1)] [] := by first | (simp [entryFrame, mkF, argsToLocals, Value.category]; done) | rfl
def Q4 (Z : State) (ob : Addr) (xi : Int32) (nu : Addr) (fn : Nat → Int32) (k1 : Nat) (h0 : Heap) (n0 : Nat) (v : Option Value) (h : Heap) (L : List Loc) : Prop := v = some (.int (fn k1)) ∧ Fr n0 L ∧ h = h0
set_option maxRecDepth 65536 in
set_option maxHeartbeats 40000000 in
theorem rm4 (l : Launch) (Z : State) (a0 : Array Value) (hw : ∀ d ∈ tables_1, d.before a0 Z = true) (ws : List Jvm.Cond) (ob : Addr) (xi : Int32) (nu : Addr) (fn : Nat → Int32) (k1 : Nat) (h0 : Heap) (n0 : Nat) (Z0 : n0 ≤ h0.size) (F1 : Fld Z h0 ob "com/example/chainwright/chainwright/KeySort" "numbers" "[I" (.ref nu)) (A1 : own_Ai Z h0 nu .int 2 fn) (I1 : xi.toInt = (k1 : Int)) (I2 : k1 < 2) :
    MetFree l (⟨"com/example/chainwright/chainwright/KeySort", "number", "(I)I"⟩ : MethodName) (head1 (Jvm.Cond.code (⟨"com/example/chainwright/chainwright/KeySort", "number", "(I)I"⟩ : MethodName) prog_11_method_4_code 2 (some .int) :: ws) ({ frames := 0, cells := 0, slots := 0, locals := 0 } : Room)) (fun a U => a = #[(.ref ob), (.int xi)] ∧ Z.Warmed39 U.vm ∧ U.heap = h0) (fun _ _ _ _ _ => True) (fun _ U o U' => ∃ v L, o = .returned v ∧ Q4 Z ob xi nu fn k1 h0 n0 v U'.heap L ∧ FrameEnd U o U' L ({ frames := 0, cells := 0, slots := 0, locals := 0 } : Room).cells ({ frames := 0, cells := 0, slots := 0, locals := 0 } : Room).slots) := by
  refine MetFree.of_bodySF (plainFor_of_name pn_4) hisR ?_
  intro p e s m args below meth c s₁ Bd hml0 hP hK
  obtain ⟨rfl, hZ, hh⟩ := hP
  have hx := Bd.exec
  have hby := Bd.bytes
  have hlk : meth.locks = false := BodyLoose.notSynchronized Bd
  have hml : c.maxLocals = 2 := hml0
  have hown : s.vm.findClass "com/example/chainwright/chainwright/KeySort" = some m.cls := findClass_of_methodNamed Bd.named
  have hnm := (name_of_methodNamed Bd.named Bd.method).1
  have X0 : Stand p l e ({ frames := 0, cells := 0, slots := 0, locals := 0 } : Room) s m #[(.ref ob), (.int xi)] below meth c s₁ [] 0 0 := Stand.of_body Bd
  have e0 : s₁.heap = h0 := by rw [← hh, Bd.state]; rfl
  have N0 := Fr.nil n0
  show own_Go p e below (own_G s (Q4 Z ob xi nu fn k1 h0 n0) ({ frames := 0, cells := 0, slots := 0, locals := 0 } : Room).cells ({ frames := 0, cells := 0, slots := 0, locals := 0 } : Room).slots) (s₁.setTop (entryFrame m #[(.ref ob), (.int xi)] 2))
  refine own_st (fun tgt k => castTop (ef_4 m ob xi) k) ?_
  show own_Go p e below _ (s₁.setTop (mkF m 0 #[.val (.ref ob), .val (.int xi)] []))
  refine own_st (V := s₁.setTop (mkF m 1 #[.val (.ref ob), .val (.int xi)] [(.ref ob)])) (fun tgt k => ?_) ?_
  · show Steps p.tables e below (s₁.setTop (mkF m 0 #[.val (.ref ob), .val (.int xi)] [])) tgt
    refine XS.aloadN X0.here hx rfl (hb hby d4_0) rfl rfl ?_
    exact k
  obtain ⟨T1, X1, e1, st1⟩ := getF X0 hx hZ hown (host := "") (Or.inl (hw _ (List.mem_of_getElem? (i := 10) rfl))) Via.refl e0 F1 (g := (mkF m 1 #[.val (.ref ob), .val (.int xi)] [(.ref ob)])) rfl rfl (hb hby d4_1)
  refine own_st st1 ?_
  show own_Go p e below _ (T1.setTop (mkF m 4 #[.val (.ref ob), .val (.int xi)] [(.ref nu)]))
  refine own_st (V := T1.setTop (mkF m 6 #[.val (.ref ob), .val (.int xi)] [(.int (fn k1))])) (fun tgt k => ?_) ?_
  · show Steps p.tables e below (T1.setTop (mkF m 4 #[.val (.ref ob), .val (.int xi)] [(.ref nu)])) tgt
    refine XS.iloadN X1.here hx rfl (hb hby d4_4) rfl ?_
    show Steps p.tables e below (T1.setTop (mkF m 5 #[.val (.ref ob), .val (.int xi)] [(.int xi), (.ref nu)])) tgt
    refine own_iaload X1 hx hZ e1 A1 (j := xi) (k := k1) I1 I2 (g := (mkF m 5 #[.val (.ref ob), .val (.int xi)] [(.int xi), (.ref nu)])) rfl rfl (hb hby d4_5) ?_
    exact k
  refine own_retI X1 hx hlk Bd.returns (hb hby d4_6) ?_ (by decide) (by decide)
  show Q4 Z ob xi nu fn k1 h0 n0 (some (.int (fn k1))) T1.heap _
  rw [e1]
  exact ⟨rfl, N0, rfl⟩
theorem d6_0 : decode jdk_29_method_69_code 0 = .ok (.iload_n 0, 1) := by decide +kernel
theorem d6_1 : decode jdk_29_method_69_code 1 = .ok (.iload_n 1, 1) := by decide +kernel
theorem d6_2 : decode jdk_29_method_69_code 2 = .ok (.if_icmp .gt 7, 3) := by decide +kernel
theorem d6_5 : decode jdk_29_method_69_code 5 = .ok (.iload_n 0, 1) := by decide +kernel
theorem d6_6 : decode jdk_29_method_69_code 6 = .ok (.goto 4, 3) := by decide +kernel
theorem d6_9 : decode jdk_29_method_69_code 9 = .ok (.iload_n 1, 1) := by decide +kernel
theorem d6_10 : decode jdk_29_method_69_code 10 = .ok (.ireturn, 1) := by decide +kernel
theorem ef_6 (m : MethodId) (x0 : Int32) (x1 : Int32) : entryFrame m #[(.int x0), (.int x1)] 2 = mkF m 0 #[.val (.int x0), .val (.int x1)] [] := by first | (simp [entryFrame, mkF, argsToLocals, Value.category]; done) | rfl
def Q6 (Z : State) (xa : Int32) (xb : Int32) (h0 : Heap) (n0 : Nat) (v : Option Value) (h : Heap) (L : List Loc) : Prop := v = some (.int (own_min xa xb)) ∧ Fr n0 L ∧ h = h0
set_option maxRecDepth 65536 in
set_option maxHeartbeats 40000000 in
theorem rm6 (l : Launch) (Z : State) (a0 : Array Value) (hw : ∀ d ∈ tables_1, d.before a0 Z = true) (ws : List Jvm.Cond) (xa : Int32) (xb : Int32) (h0 : Heap) (n0 : Nat) (Z0 : n0 ≤ h0.size) :
    MetFree l (⟨"java/lang/Math", "min", "(II)I"⟩ : MethodName) (head1 (Jvm.Cond.code (⟨"java/lang/Math", "min", "(II)I"⟩ : MethodName) jdk_29_method_69_code 2 (some .int) :: ws) ({ frames := 0, cells := 0, slots := 0, locals := 0 } : Room)) (fun a U => a = #[(.int xa), (.int xb)] ∧ Z.Warmed39 U.vm ∧ U.heap = h0) (fun _ _ _ _ _ => True) (fun _ U o U' => ∃ v L, o = .returned v ∧ Q6 Z xa xb h0 n0 v U'.heap L ∧ FrameEnd U o U' L ({ frames := 0, cells := 0, slots := 0, locals := 0 } : Room).cells ({ frames := 0, cells := 0, slots := 0, locals := 0 } : Room).slots) := by
  refine MetFree.of_bodySF (Jvm.Free.JP.mathPlain rfl (by decide +kernel)) hisR ?_
  intro p e s m args below meth c s₁ Bd hml0 hP hK
  obtain ⟨rfl, hZ, hh⟩ := hP
  have hx := Bd.exec
  have hby := Bd.bytes
  have hlk : meth.locks = false := BodyLoose.notSynchronized Bd
  have hml : c.maxLocals = 2 := hml0
  have hown : s.vm.findClass "java/lang/Math" = some m.cls := findClass_of_methodNamed Bd.named
  have hnm := (name_of_methodNamed Bd.named Bd.method).1
  have X0 : Stand p l e ({ frames := 0, cells := 0, slots := 0, locals := 0 } : Room) s m #[(.int xa), (.int xb)] below meth c s₁ [] 0 0 := Stand.of_body Bd
  have e0 : s₁.heap = h0 := by rw [← hh, Bd.state]; rfl
  have N0 := Fr.nil n0
  show own_Go p e below (own_G s (Q6 Z xa xb h0 n0) ({ frames := 0, cells := 0, slots := 0, locals := 0 } : Room).cells ({ frames := 0, cells := 0, slots := 0, locals := 0 } : Room).slots) (s₁.setTop (entryFrame m #[(.int xa), (.int xb)] 2))
  refine own_st (fun tgt k => castTop (ef_6 m xa xb) k) ?_
  show own_Go p e below _ (s₁.setTop (mkF m 0 #[.val (.int xa), .val (.int xb)] []))
  refine own_st (V := s₁.setTop (mkF m 2 #[.val (.int xa), .val (.int xb)] [(.int xb), (.int xa)])) (fun tgt k => ?_) ?_
  · show Steps p.tables e below (s₁.setTop (mkF m 0 #[.val (.int xa), .val (.int xb)] [])) tgt
    refine XS.iloadN X0.here hx rfl (hb hby d6_0) rfl ?_
    show Steps p.tables e below (s₁.setTop (mkF m 1 #[.val (.int xa), .val (.int xb)] [(.int xa)])) tgt
    refine XS.iloadN X0.here hx rfl (hb hby d6_1) rfl ?_
    exact k
  by_cases hc2 : xb < xa
  · skip
    refine own_st (V := s₁.setTop (mkF m 10 #[.val (.int xa), .val (.int xb)] [(.int xb)])) (fun tgt k => ?_) ?_
    · show Steps p.tables e below (s₁.setTop (mkF m 2 #[.val (.int xa), .val (.int xb)] [(.int xb), (.int xa)])) tgt
      refine XS.icmpYes X0.here hx rfl (pc0 := 2) (pc' := 9) rfl (hb hby d6_2) rfl (tlt hc2).2.2.1 (by decide) (by decide) ?_
      show Steps p.tables e below (s₁.setTop (mkF m 9 #[.val (.int xa), .val (.int xb)] [])) tgt
      refine XS.iloadN X0.here hx rfl (hb hby d6_9) rfl ?_
      exact k
    refine own_retI X0 hx hlk Bd.returns (hb hby d6_10) ?_ (by decide) (by decide)
    show Q6 Z xa xb h0 n0 (some (.int xb)) s₁.heap _
    rw [e0]
    refine ⟨?_, N0, rfl⟩
    exact congrArg (fun q => some (Value.int q)) (by unfold own_min; rw [if_pos hc2])
  · skip
    refine own_st (V := s₁.setTop (mkF m 10 #[.val (.int xa), .val (.int xb)] [(.int xa)])) (fun tgt k => ?_) ?_
    · show Steps p.tables e below (s₁.setTop (mkF m 2 #[.val (.int xa), .val (.int xb)] [(.int xb), (.int xa)])) tgt
      refine XS.icmpNo X0.here hx rfl (hb hby d6_2) rfl (flt hc2).2.2.1 ?_
      show Steps p.tables e below (s₁.setTop (mkF m 5 #[.val (.int xa), .val (.int xb)] [])) tgt
      refine XS.iloadN X0.here hx rfl (hb hby d6_5) rfl ?_
      show Steps p.tables e below (s₁.setTop (mkF m 6 #[.val (.int xa), .val (.int xb)] [(.int xa)])) tgt
      refine XS.goto X0.here hx rfl (pc0 := 6) (pc' := 10) rfl (hb hby d6_6) (by decide) (by decide) ?_
      exact k
    refine own_retI X0 hx hlk Bd.returns (hb hby d6_10) ?_ (by decide) (by decide)
    show Q6 Z xa xb h0 n0 (some (.int xa)) s₁.heap _
    rw [e0]
    refine ⟨?_, N0, rfl⟩
    exact congrArg (fun q => some (Value.int q)) (by unfold own_min; rw [if_neg hc2])
theorem d7_0 : decode prog_11_method_6_code 0 = .ok (.aload_n 0, 1) := by decide +kernel
theorem d7_1 : decode prog_11_method_6_code 1 = .ok (.getfield 13, 3) := by decide +kernel
theorem d7_4 : decode prog_11_method_6_code 4 = .ok (.iload_n 1, 1) := by decide +kernel
theorem d7_5 : decode prog_11_method_6_code 5 = .ok (.laload, 1) := by decide +kernel
theorem d7_6 : decode prog_11_method_6_code 6 = .ok (.aload_n 0, 1) := by decide +kernel
theorem d7_7 : decode prog_11_method_6_code 7 = .ok (.getfield 13, 3) := by decide +kernel
theorem d7_10 : decode prog_11_method_6_code 10 = .ok (.iload_n 2, 1) := by decide +kernel
theorem d7_11 : decode prog_11_method_6_code 11 = .ok (.laload, 1) := by decide +kernel
theorem d7_12 : decode prog_11_method_6_code 12 = .ok (.lcmp, 1) := by decide +kernel
theorem d7_13 : decode prog_11_method_6_code 13 = .ok (.ifCond .lt 24, 3) := by decide +kernel
theorem d7_16 : decode prog_11_method_6_code 16 = .ok (.aload_n 0, 1) := by decide +kernel
theorem d7_17 : decode prog_11_method_6_code 17 = .ok (.getfield 13, 3) := by decide +kernel
theorem d7_20 : decode prog_11_method_6_code 20 = .ok (.iload_n 1, 1) := by decide +kernel
theorem d7_21 : decode prog_11_method_6_code 21 = .ok (.laload, 1) := by decide +kernel
theorem d7_22 : decode prog_11_method_6_code 22 = .ok (.aload_n 0, 1) := by decide +kernel
theorem d7_23 : decode prog_11_method_6_code 23 = .ok (.getfield 13, 3) := by decide +kernel
theorem d7_26 : decode prog_11_method_6_code 26 = .ok (.iload_n 2, 1) := by decide +kernel
theorem d7_27 : decode prog_11_method_6_code 27 = .ok (.laload, 1) := by decide +kernel
theorem d7_28 : decode prog_11_method_6_code 28 = .ok (.lcmp, 1) := by decide +kernel
theorem d7_29 : decode prog_11_method_6_code 29 = .ok (.ifCond .ne 12, 3) := by decide +kernel
theorem d7_32 : decode prog_11_method_6_code 32 = .ok (.iload_n 1, 1) := by decide +kernel
theorem d7_33 : decode prog_11_method_6_code 33 = .ok (.iload_n 2, 1) := by decide +kernel
theorem d7_34 : decode prog_11_method_6_code 34 = .ok (.if_icmp .ge 7, 3) := by decide +kernel
theorem d7_37 : decode prog_11_method_6_code 37 = .ok (.iconst 1, 1) := by decide +kernel
theorem d7_38 : decode prog_11_method_6_code 38 = .ok (.goto 4, 3) := by decide +kernel
theorem d7_41 : decode prog_11_method_6_code 41 = .ok (.iconst 0, 1) := by decide +kernel
theorem d7_42 : decode prog_11_method_6_code 42 = .ok (.ireturn, 1) := by decide +kernel
theorem pn_7 : plainName "com/example/chainwright/chainwright/KeySort" = true := by first | (simp [plainName, overriddenIn]; done) | decide +kernel
theorem ef_7 (m : MethodId) (x0 : Addr) (x1 : Int32) (x2 : Int32) : entryFrame m #[(.ref x0), (.int x1), (.int x2)] 3 = mkF m 0 #[.val (.ref x0), .val (.int x1), .val (.int x2)] [] := by first | (simp [entryFrame, mkF, argsToLocals, Value.category]; done) | rfl
def Q7 (Z : State) (ob : Addr) (xa : Int32) (xb : Int32) (ke : Addr) (fk : Nat → Int64) (ka : Nat) (kb : Nat) (h0 : Heap) (n0 : Nat) (v : Option Value) (h : Heap) (L : List Loc) : Prop := v = some (.int (own_bf fk xa xb ka kb)) ∧ Fr n0 L ∧ h = h0
set_option maxRecDepth 65536 in
set_option maxHeartbeats 40000000 in
theorem rm7 (l : Launch) (Z : State) (a0 : Array Value) (hw : ∀ d ∈ tables_1, d.before a0 Z = true) (ws : List Jvm.Cond) (ob : Addr) (xa : Int32) (xb : Int32) (ke : Addr) (fk : Nat → Int64) (ka : Nat) (kb : Nat) (h0 : Heap) (n0 : Nat) (Z0 : n0 ≤ h0.size) (F2 : Fld Z h0 ob "com/example/chainwright/chainwright/KeySort" "keys" "[J" (.ref ke)) (A2 : own_Aj Z h0 ke .long 2 fk) (I1 : xa.toInt = (ka : Int)) (I2 : ka < 2) (I3 : xb.toInt = (kb : Int)) (I4 : kb < 2) :
    MetFree l (⟨"com/example/chainwright/chainwright/KeySort", "before", "(II)Z"⟩ : MethodName) (head1 (Jvm.Cond.code (⟨"com/example/chainwright/chainwright/KeySort", "before", "(II)Z"⟩ : MethodName) prog_11_method_6_code 3 (some .boolean) :: ws) ({ frames := 0, cells := 0, slots := 0, locals := 0 } : Room)) (fun a U => a = #[(.ref ob), (.int xa), (.int xb)] ∧ Z.Warmed39 U.vm ∧ U.heap = h0) (fun _ _ _ _ _ => True) (fun _ U o U' => ∃ v L, o = .returned v ∧ Q7 Z ob xa xb ke fk ka kb h0 n0 v U'.heap L ∧ FrameEnd U o U' L ({ frames := 0, cells := 0, slots := 0, locals := 0 } : Room).cells ({ frames := 0, cells := 0, slots := 0, locals := 0 } : Room).slots) := by
  refine MetFree.of_bodySF (plainFor_of_name pn_7) hisR ?_
  intro p e s m args below meth c s₁ Bd hml0 hP hK
  obtain ⟨rfl, hZ, hh⟩ := hP
  have hx := Bd.exec
  have hby := Bd.bytes
  have hlk : meth.locks = false := BodyLoose.notSynchronized Bd
  have hml : c.maxLocals = 3 := hml0
  have hown : s.vm.findClass "com/example/chainwright/chainwright/KeySort" = some m.cls := findClass_of_methodNamed Bd.named
  have hnm := (name_of_methodNamed Bd.named Bd.method).1
  have X0 : Stand p l e ({ frames := 0, cells := 0, slots := 0, locals := 0 } : Room) s m #[(.ref ob), (.int xa), (.int xb)] below meth c s₁ [] 0 0 := Stand.of_body Bd
  have e0 : s₁.heap = h0 := by rw [← hh, Bd.state]; rfl
  have N0 := Fr.nil n0
  show own_Go p e below (own_G s (Q7 Z ob xa xb ke fk ka kb h0 n0) ({ frames := 0, cells := 0, slots := 0, locals := 0 } : Room).cells ({ frames := 0, cells := 0, slots := 0, locals := 0 } : Room).slots) (s₁.setTop (entryFrame m #[(.ref ob), (.int xa), (.int xb)] 3))
  refine own_st (fun tgt k => castTop (ef_7 m ob xa xb) k) ?_
  show own_Go p e below _ (s₁.setTop (mkF m 0 #[.val (.ref ob), .val (.int xa), .val (.int xb)] []))
  refine own_st (V := s₁.setTop (mkF m 1 #[.val (.ref ob), .val (.int xa), .val (.int xb)] [(.ref ob)])) (fun tgt k => ?_) ?_
  · show Steps p.tables e below (s₁.setTop (mkF m 0 #[.val (.ref ob), .val (.int xa), .val (.int xb)] [])) tgt
    refine XS.aloadN X0.here hx rfl (hb hby d7_0) rfl rfl ?_
    exact k
  obtain ⟨T1, X1, e1, st1⟩ := getF X0 hx hZ hown (host := "") (Or.inl (hw _ (List.mem_of_getElem? (i := 13) rfl))) Via.refl e0 F2 (g := (mkF m 1 #[.val (.ref ob), .val (.int xa), .val (.int xb)] [(.ref ob)])) rfl rfl (hb hby d7_1)
  refine own_st st1 ?_
  show own_Go p e below _ (T1.setTop (mkF m 4 #[.val (.ref ob), .val (.int xa), .val (.int xb)] [(.ref ke)]))
  refine own_st (V := T1.setTop (mkF m 7 #[.val (.ref ob), .val (.int xa), .val (.int xb)] [(.ref ob), (.long (fk ka))])) (fun tgt k => ?_) ?_
  · show Steps p.tables e below (T1.setTop (mkF m 4 #[.val (.ref ob), .val (.int xa), .val (.int xb)] [(.ref ke)])) tgt
    refine XS.iloadN X1.here hx rfl (hb hby d7_4) rfl ?_
    show Steps p.tables e below (T1.setTop (mkF m 5 #[.val (.ref ob), .val (.int xa), .val (.int xb)] [(.int xa), (.ref ke)])) tgt
    refine own_laload X1 hx hZ e1 A2 (j := xa) (k := ka) I1 I2 (g := (mkF m 5 #[.val (.ref ob), .val (.int xa), .val (.int xb)] [(.int xa), (.ref ke)])) rfl rfl (hb hby d7_5) ?_
    show Steps p.tables e below (T1.setTop (mkF m 6 #[.val (.ref ob), .val (.int xa), .val (.int xb)] [(.long (fk ka))])) tgt
    refine XS.aloadN X1.here hx rfl (hb hby d7_6) rfl rfl ?_
    exact k
  obtain ⟨T2, X2, e2, st2⟩ := getF X1 hx hZ hown (host := "") (Or.inl (hw _ (List.mem_of_getElem? (i := 13) rfl))) Via.refl e1 F2 (g := (mkF m 7 #[.val (.ref ob), .val (.int xa), .val (.int xb)] [(.ref ob), (.long (fk ka))])) rfl rfl (hb hby d7_7)
  refine own_st st2 ?_
  show own_Go p e below _ (T2.setTop (mkF m 10 #[.val (.ref ob), .val (.int xa), .val (.int xb)] [(.ref ke), (.long (fk ka))]))
  refine own_st (V := T2.setTop (mkF m 13 #[.val (.ref ob), .val (.int xa), .val (.int xb)] [(.int (lcmpW (fk ka) (fk kb)))])) (fun tgt k => ?_) ?_
  · show Steps p.tables e below (T2.setTop (mkF m 10 #[.val (.ref ob), .val (.int xa), .val (.int xb)] [(.ref ke), (.long (fk ka))])) tgt
    refine XS.iloadN X2.here hx rfl (hb hby d7_10) rfl ?_
    show Steps p.tables e below (T2.setTop (mkF m 11 #[.val (.ref ob), .val (.int xa), .val (.int xb)] [(.int xb), (.ref ke), (.long (fk ka))])) tgt
    refine own_laload X2 hx hZ e2 A2 (j := xb) (k := kb) I3 I4 (g := (mkF m 11 #[.val (.ref ob), .val (.int xa), .val (.int xb)] [(.int xb), (.ref ke), (.long (fk ka))])) rfl rfl (hb hby d7_11) ?_
    show Steps p.tables e below (T2.setTop (mkF m 12 #[.val (.ref ob), .val (.int xa), .val (.int xb)] [(.long (fk kb)), (.long (fk ka))])) tgt
    refine XS.lcmp X2.here hx rfl (hb hby d7_12) rfl ?_
    exact k
  by_cases hc13 : (fk ka) < (fk kb)
  · skip
    refine own_st (V := T2.setTop (mkF m 42 #[.val (.ref ob), .val (.int xa), .val (.int xb)] [(.int (1 : Int32))])) (fun tgt k => ?_) ?_
    · show Steps p.tables e below (T2.setTop (mkF m 13 #[.val (.ref ob), .val (.int xa), .val (.int xb)] [(.int (lcmpW (fk ka) (fk kb)))])) tgt
      refine XS.ifYes X2.here hx rfl (pc0 := 13) (pc' := 37) rfl (hb hby d7_13) rfl ((if0 _ _).trans (tlt ((lw_lt (fk ka) (fk kb)).mpr hc13)).1) (by decide) (by decide) ?_
      show Steps p.tables e below (T2.setTop (mkF m 37 #[.val (.ref ob), .val (.int xa), .val (.int xb)] [])) tgt
      refine XS.iconst X2.here hx rfl (hb hby d7_37) ?_
      show Steps p.tables e below (T2.setTop (mkF m 38 #[.val (.ref ob), .val (.int xa), .val (.int xb)] [(.int (1 : Int32))])) tgt
      refine XS.goto X2.here hx rfl (pc0 := 38) (pc' := 42) rfl (hb hby d7_38) (by decide) (by decide) ?_
      exact k
    refine own_retN X2 hx hlk (t := .boolean) (z' := (1 : Int32)) Bd.returns (by simp) rfl (hb hby d7_42) ?_ (by decide) (by decide)
    show Q7 Z ob xa xb ke fk ka kb h0 n0 (some (.int (1 : Int32))) T2.heap _
    rw [e2]
    refine ⟨?_, N0, rfl⟩
    exact congrArg (fun q => some (Value.int q)) (by unfold own_bf own_b; rw [if_pos hc13])
  · skip
    refine own_st (V := T2.setTop (mkF m 17 #[.val (.ref ob), .val (.int xa), .val (.int xb)] [(.ref ob)])) (fun tgt k => ?_) ?_
    · show Steps p.tables e below (T2.setTop (mkF m 13 #[.val (.ref ob), .val (.int xa), .val (.int xb)] [(.int (lcmpW (fk ka) (fk kb)))])) tgt
      refine XS.ifNo X2.here hx rfl (hb hby d7_13) rfl ((if0 _ _).trans (flt (fun q => hc13 ((lw_lt (fk ka) (fk kb)).mp q))).1) ?_
      show Steps p.tables e below (T2.setTop (mkF m 16 #[.val (.ref ob), .val (.int xa), .val (.int xb)] [])) tgt
      refine XS.aloadN X2.here hx rfl (hb hby d7_16) rfl rfl ?_
      exact k
    obtain ⟨T4, X4, e4, st4⟩ := getF X2 hx hZ hown (host := "") (Or.inl (hw _ (List.mem_of_getElem? (i := 13) rfl))) Via.refl e2 F2 (g := (mkF m 17 #[.val (.ref ob), .val (.int xa), .val (.int xb)] [(.ref ob)])) rfl rfl (hb hby d7_17)
    refine own_st st4 ?_
    show own_Go p e below _ (T4.setTop (mkF m 20 #[.val (.ref ob), .val (.int xa), .val (.int xb)] [(.ref ke)]))
    refine own_st (V := T4.setTop (mkF m 23 #[.val (.ref ob), .val (.int xa), .val (.int xb)] [(.ref ob), (.long (fk ka))])) (fun tgt k => ?_) ?_
    · show Steps p.tables e below (T4.setTop (mkF m 20 #[.val (.ref ob), .val (.int xa), .val (.int xb)] [(.ref ke)])) tgt
      refine XS.iloadN X4.here hx rfl (hb hby d7_20) rfl ?_
      show Steps p.tables e below (T4.setTop (mkF m 21 #[.val (.ref ob), .val (.int xa), .val (.int xb)] [(.int xa), (.ref ke)])) tgt
      refine own_laload X4 hx hZ e4 A2 (j := xa) (k := ka) I1 I2 (g := (mkF m 21 #[.val (.ref ob), .val (.int xa), .val (.int xb)] [(.int xa), (.ref ke)])) rfl rfl (hb hby d7_21) ?_
      show Steps p.tables e below (T4.setTop (mkF m 22 #[.val (.ref ob), .val (.int xa), .val (.int xb)] [(.long (fk ka))])) tgt
      refine XS.aloadN X4.here hx rfl (hb hby d7_22) rfl rfl ?_
      exact k
    obtain ⟨T5, X5, e5, st5⟩ := getF X4 hx hZ hown (host := "") (Or.inl (hw _ (List.mem_of_getElem? (i := 13) rfl))) Via.refl e4 F2 (g := (mkF m 23 #[.val (.ref ob), .val (.int xa), .val (.int xb)] [(.ref ob), (.long (fk ka))])) rfl rfl (hb hby d7_23)
    refine own_st st5 ?_
    show own_Go p e below _ (T5.setTop (mkF m 26 #[.val (.ref ob), .val (.int xa), .val (.int xb)] [(.ref ke), (.long (fk ka))]))
    refine own_st (V := T5.setTop (mkF m 29 #[.val (.ref ob), .val (.int xa), .val (.int xb)] [(.int (lcmpW (fk ka) (fk kb)))])) (fun tgt k => ?_) ?_
    · show Steps p.tables e below (T5.setTop (mkF m 26 #[.val (.ref ob), .val (.int xa), .val (.int xb)] [(.ref ke), (.long (fk ka))])) tgt
      refine XS.iloadN X5.here hx rfl (hb hby d7_26) rfl ?_
      show Steps p.tables e below (T5.setTop (mkF m 27 #[.val (.ref ob), .val (.int xa), .val (.int xb)] [(.int xb), (.ref ke), (.long (fk ka))])) tgt
      refine own_laload X5 hx hZ e5 A2 (j := xb) (k := kb) I3 I4 (g := (mkF m 27 #[.val (.ref ob), .val (.int xa), .val (.int xb)] [(.int xb), (.ref ke), (.long (fk ka))])) rfl rfl (hb hby d7_27) ?_
      show Steps p.tables e below (T5.setTop (mkF m 28 #[.val (.ref ob), .val (.int xa), .val (.int xb)] [(.long (fk kb)), (.long (fk ka))])) tgt
      refine XS.lcmp X5.here hx rfl (hb hby d7_28) rfl ?_
      exact k
    by_cases hc29 : (fk ka) = (fk kb)
    · skip
      refine own_st (V := T5.setTop (mkF m 34 #[.val (.ref ob), .val (.int xa), .val (.int xb)] [(.int xb), (.int xa)])) (fun tgt k => ?_) ?_
      · show Steps p.tables e below (T5.setTop (mkF m 29 #[.val (.ref ob), .val (.int xa), .val (.int xb)] [(.int (lcmpW (fk ka) (fk kb)))])) tgt
        refine XS.ifNo X5.here hx rfl (hb hby d7_29) rfl ((if0 _ _).trans (teq ((lw_eq (fk ka) (fk kb)).mpr hc29)).2) ?_
        show Steps p.tables e below (T5.setTop (mkF m 32 #[.val (.ref ob), .val (.int xa), .val (.int xb)] [])) tgt
        refine XS.iloadN X5.here hx rfl (hb hby d7_32) rfl ?_
        show Steps p.tables e below (T5.setTop (mkF m 33 #[.val (.ref ob), .val (.int xa), .val (.int xb)] [(.int xa)])) tgt
        refine XS.iloadN X5.here hx rfl (hb hby d7_33) rfl ?_
        exact k
      by_cases hc34 : xa < xb
      · skip
        refine own_st (V := T5.setTop (mkF m 42 #[.val (.ref ob), .val (.int xa), .val (.int xb)] [(.int (1 : Int32))])) (fun tgt k => ?_) ?_
        · show Steps p.tables e below (T5.setTop (mkF m 34 #[.val (.ref ob), .val (.int xa), .val (.int xb)] [(.int xb), (.int xa)])) tgt
          refine XS.icmpNo X5.here hx rfl (hb hby d7_34) rfl (tlt hc34).2.1 ?_
          show Steps p.tables e below (T5.setTop (mkF m 37 #[.val (.ref ob), .val (.int xa), .val (.int xb)] [])) tgt
          refine XS.iconst X5.here hx rfl (hb hby d7_37) ?_
          show Steps p.tables e below (T5.setTop (mkF m 38 #[.val (.ref ob), .val (.int xa), .val (.int xb)] [(.int (1 : Int32))])) tgt
          refine XS.goto X5.here hx rfl (pc0 := 38) (pc' := 42) rfl (hb hby d7_38) (by decide) (by decide) ?_
          exact k
        refine own_retN X5 hx hlk (t := .boolean) (z' := (1 : Int32)) Bd.returns (by simp) rfl (hb hby d7_42) ?_ (by decide) (by decide)
        show Q7 Z ob xa xb ke fk ka kb h0 n0 (some (.int (1 : Int32))) T5.heap _
        rw [e5]
        refine ⟨?_, N0, rfl⟩
        exact congrArg (fun q => some (Value.int q)) (by unfold own_bf own_b; rw [if_neg hc13, if_pos hc29, if_pos hc34])
      · skip
        refine own_st (V := T5.setTop (mkF m 42 #[.val (.ref ob), .val (.int xa), .val (.int xb)] [(.int (0 : Int32))])) (fun tgt k => ?_) ?_
        · show Steps p.tables e below (T5.setTop (mkF m 34 #[.val (.ref ob), .val (.int xa), .val (.int xb)] [(.int xb), (.int xa)])) tgt
          refine XS.icmpYes X5.here hx rfl (pc0 := 34) (pc' := 41) rfl (hb hby d7_34) rfl (flt hc34).2.1 (by decide) (by decide) ?_
          show Steps p.tables e below (T5.setTop (mkF m 41 #[.val (.ref ob), .val (.int xa), .val (.int xb)] [])) tgt
          refine XS.iconst X5.here hx rfl (hb hby d7_41) ?_
          exact k
        refine own_retN X5 hx hlk (t := .boolean) (z' := (0 : Int32)) Bd.returns (by simp) rfl (hb hby d7_42) ?_ (by decide) (by decide)
        show Q7 Z ob xa xb ke fk ka kb h0 n0 (some (.int (0 : Int32))) T5.heap _
        rw [e5]
        refine ⟨?_, N0, rfl⟩
        exact congrArg (fun q => some (Value.int q)) (by unfold own_bf own_b; rw [if_neg hc13, if_pos hc29, if_neg hc34])
    · skip
      refine own_st (V := T5.setTop (mkF m 42 #[.val (.ref ob), .val (.int xa), .val (.int xb)] [(.int (0 : Int32))])) (fun tgt k => ?_) ?_
      · show Steps p.tables e below (T5.setTop (mkF m 29 #[.val (.ref ob), .val (.int xa), .val (.int xb)] [(.int (lcmpW (fk ka) (fk kb)))])) tgt
        refine XS.ifYes X5.here hx rfl (pc0 := 29) (pc' := 41) rfl (hb hby d7_29) rfl ((if0 _ _).trans (feq (fun q => hc29 ((lw_eq (fk ka) (fk kb)).mp q))).2) (by decide) (by decide) ?_
        show Steps p.tables e below (T5.setTop (mkF m 41 #[.val (.ref ob), .val (.int xa), .val (.int xb)] [])) tgt
        refine XS.iconst X5.here hx rfl (hb hby d7_41) ?_
        exact k
      refine own_retN X5 hx hlk (t := .boolean) (z' := (0 : Int32)) Bd.returns (by simp) rfl (hb hby d7_42) ?_ (by decide) (by decide)
      show Q7 Z ob xa xb ke fk ka kb h0 n0 (some (.int (0 : Int32))) T5.heap _
      rw [e5]
      refine ⟨?_, N0, rfl⟩
      exact congrArg (fun q => some (Value.int q)) (by unfold own_bf own_b; rw [if_neg hc13, if_neg hc29])
theorem d5_0 : decode prog_11_method_3_code 0 = .ok (.aload_n 0, 1) := by decide +kernel
theorem d5_1 : decode prog_11_method_3_code 1 = .ok (.getfield 7, 3) := by decide +kernel
theorem d5_4 : decode prog_11_method_3_code 4 = .ok (.astore_n 2, 1) := by decide +kernel
theorem d5_5 : decode prog_11_method_3_code 5 = .ok (.aload_n 0, 1) := by decide +kernel
theorem d5_6 : decode prog_11_method_3_code 6 = .ok (.getfield 17, 3) := by decide +kernel
theorem d5_9 : decode prog_11_method_3_code 9 = .ok (.astore_n 3, 1) := by decide +kernel
theorem d5_10 : decode prog_11_method_3_code 10 = .ok (.iconst 1, 1) := by decide +kernel
theorem d5_11 : decode prog_11_method_3_code 11 = .ok (.istore 4, 2) := by decide +kernel
theorem d5_13 : decode prog_11_method_3_code 13 = .ok (.iload 4, 2) := by decide +kernel
theorem d5_15 : decode prog_11_method_3_code 15 = .ok (.iload_n 1, 1) := by decide +kernel
theorem d5_16 : decode prog_11_method_3_code 16 = .ok (.if_icmp .ge 152, 3) := by decide +kernel
theorem d5_19 : decode prog_11_method_3_code 19 = .ok (.iconst 0, 1) := by decide +kernel
theorem d5_20 : decode prog_11_method_3_code 20 = .ok (.istore 5, 2) := by decide +kernel
theorem d5_22 : decode prog_11_method_3_code 22 = .ok (.iload 5, 2) := by decide +kernel
theorem d5_24 : decode prog_11_method_3_code 24 = .ok (.iload_n 1, 1) := by decide +kernel
theorem d5_25 : decode prog_11_method_3_code 25 = .ok (.if_icmp .ge 126, 3) := by decide +kernel
theorem d5_28 : decode prog_11_method_3_code 28 = .ok (.iload 5, 2) := by decide +kernel
theorem d5_30 : decode prog_11_method_3_code 30 = .ok (.iload 4, 2) := by decide +kernel
theorem d5_32 : decode prog_11_method_3_code 32 = .ok (.iadd, 1) := by decide +kernel
theorem d5_33 : decode prog_11_method_3_code 33 = .ok (.iload_n 1, 1) := by decide +kernel
theorem d5_34 : decode prog_11_method_3_code 34 = .ok (.invokestatic 20, 3) := by decide +kernel
theorem d5_37 : decode prog_11_method_3_code 37 = .ok (.istore 6, 2) := by decide +kernel
theorem d5_39 : decode prog_11_method_3_code 39 = .ok (.iload 5, 2) := by decide +kernel
theorem d5_41 : decode prog_11_method_3_code 41 = .ok (.iconst 2, 1) := by decide +kernel
theorem d5_42 : decode prog_11_method_3_code 42 = .ok (.iload 4, 2) := by decide +kernel
theorem d5_44 : decode prog_11_method_3_code 44 = .ok (.imul, 1) := by decide +kernel
theorem d5_45 : decode prog_11_method_3_code 45 = .ok (.iadd, 1) := by decide +kernel
theorem d5_46 : decode prog_11_method_3_code 46 = .ok (.iload_n 1, 1) := by decide +kernel
theorem d5_47 : decode prog_11_method_3_code 47 = .ok (.invokestatic 20, 3) := by decide +kernel
theorem d5_50 : decode prog_11_method_3_code 50 = .ok (.istore 7, 2) := by decide +kernel
theorem d5_52 : decode prog_11_method_3_code 52 = .ok (.iload 5, 2) := by decide +kernel
theorem d5_54 : decode prog_11_method_3_code 54 = .ok (.istore 8, 2) := by decide +kernel
theorem d5_56 : decode prog_11_method_3_code 56 = .ok (.iload 6, 2) := by decide +kernel
theorem d5_58 : decode prog_11_method_3_code 58 = .ok (.istore 9, 2) := by decide +kernel
theorem d5_60 : decode prog_11_method_3_code 60 = .ok (.iload 5, 2) := by decide +kernel
theorem d5_62 : decode prog_11_method_3_code 62 = .ok (.istore 10, 2) := by decide +kernel
theorem d5_64 : decode prog_11_method_3_code 64 = .ok (.iload 10, 2) := by decide +kernel
theorem d5_66 : decode prog_11_method_3_code 66 = .ok (.iload 7, 2) := by decide +kernel
theorem d5_68 : decode prog_11_method_3_code 68 = .ok (.if_icmp .ge 71, 3) := by decide +kernel
theorem d5_71 : decode prog_11_method_3_code 71 = .ok (.iload 9, 2) := by decide +kernel
theorem d5_73 : decode prog_11_method_3_code 73 = .ok (.iload 7, 2) := by decide +kernel
theorem d5_75 : decode prog_11_method_3_code 75 = .ok (.if_icmp .eq 25, 3) := by decide +kernel
theorem d5_78 : decode prog_11_method_3_code 78 = .ok (.iload 8, 2) := by decide +kernel
theorem d5_80 : decode prog_11_method_3_code 80 = .ok (.iload 6, 2) := by decide +kernel
theorem d5_82 : decode prog_11_method_3_code 82 = .ok (.if_icmp .ge 22, 3) := by decide +kernel
theorem d5_85 : decode prog_11_method_3_code 85 = .ok (.aload_n 0, 1) := by decide +kernel
theorem d5_86 : decode prog_11_method_3_code 86 = .ok (.aload_n 2, 1) := by decide +kernel
theorem d5_87 : decode prog_11_method_3_code 87 = .ok (.iload 9, 2) := by decide +kernel
theorem d5_89 : decode prog_11_method_3_code 89 = .ok (.iaload, 1) := by decide +kernel
theorem d5_90 : decode prog_11_method_3_code 90 = .ok (.aload_n 2, 1) := by decide +kernel
theorem d5_91 : decode prog_11_method_3_code 91 = .ok (.iload 8, 2) := by decide +kernel
theorem d5_93 : decode prog_11_method_3_code 93 = .ok (.iaload, 1) := by decide +kernel
theorem d5_94 : decode prog_11_method_3_code 94 = .ok (.invokevirtual 26, 3) := by decide +kernel
theorem d5_97 : decode prog_11_method_3_code 97 = .ok (.ifCond .ne 7, 3) := by decide +kernel
theorem d5_100 : decode prog_11_method_3_code 100 = .ok (.iconst 1, 1) := by decide +kernel
theorem d5_101 : decode prog_11_method_3_code 101 = .ok (.goto 4, 3) := by decide +kernel
theorem d5_104 : decode prog_11_method_3_code 104 = .ok (.iconst 0, 1) := by decide +kernel
theorem d5_105 : decode prog_11_method_3_code 105 = .ok (.istore 11, 2) := by decide +kernel
theorem d5_107 : decode prog_11_method_3_code 107 = .ok (.aload_n 3, 1) := by decide +kernel
theorem d5_108 : decode prog_11_method_3_code 108 = .ok (.iload 10, 2) := by decide +kernel
theorem d5_110 : decode prog_11_method_3_code 110 = .ok (.iload 11, 2) := by decide +kernel
theorem d5_112 : decode prog_11_method_3_code 112 = .ok (.ifCond .eq 13, 3) := by decide +kernel
theorem d5_115 : decode prog_11_method_3_code 115 = .ok (.aload_n 2, 1) := by decide +kernel
theorem d5_116 : decode prog_11_method_3_code 116 = .ok (.iload 8, 2) := by decide +kernel
theorem d5_118 : decode prog_11_method_3_code 118 = .ok (.iinc 8 1, 3) := by decide +kernel
theorem d5_121 : decode prog_11_method_3_code 121 = .ok (.iaload, 1) := by decide +kernel
theorem d5_122 : decode prog_11_method_3_code 122 = .ok (.goto 10, 3) := by decide +kernel
theorem d5_125 : decode prog_11_method_3_code 125 = .ok (.aload_n 2, 1) := by decide +kernel
theorem d5_126 : decode prog_11_method_3_code 126 = .ok (.iload 9, 2) := by decide +kernel
theorem d5_128 : decode prog_11_method_3_code 128 = .ok (.iinc 9 1, 3) := by decide +kernel
theorem d5_131 : decode prog_11_method_3_code 131 = .ok (.iaload, 1) := by decide +kernel
theorem d5_132 : decode prog_11_method_3_code 132 = .ok (.iastore, 1) := by decide +kernel
theorem d5_133 : decode prog_11_method_3_code 133 = .ok (.iinc 10 1, 3) := by decide +kernel
theorem d5_136 : decode prog_11_method_3_code 136 = .ok (.goto (-72), 3) := by decide +kernel
theorem d5_139 : decode prog_11_method_3_code 139 = .ok (.iload 5, 2) := by decide +kernel
theorem d5_141 : decode prog_11_method_3_code 141 = .ok (.iconst 2, 1) := by decide +kernel
theorem d5_142 : decode prog_11_method_3_code 142 = .ok (.iload 4, 2) := by decide +kernel
theorem d5_144 : decode prog_11_method_3_code 144 = .ok (.imul, 1) := by decide +kernel
theorem d5_145 : decode prog_11_method_3_code 145 = .ok (.iadd, 1) := by decide +kernel
theorem d5_146 : decode prog_11_method_3_code 146 = .ok (.istore 5, 2) := by decide +kernel
theorem d5_148 : decode prog_11_method_3_code 148 = .ok (.goto (-126), 3) := by decide +kernel
theorem d5_151 : decode prog_11_method_3_code 151 = .ok (.aload_n 3, 1) := by decide +kernel
theorem d5_152 : decode prog_11_method_3_code 152 = .ok (.astore 5, 2) := by decide +kernel
theorem d5_154 : decode prog_11_method_3_code 154 = .ok (.aload_n 2, 1) := by decide +kernel
theorem d5_155 : decode prog_11_method_3_code 155 = .ok (.astore_n 3, 1) := by decide +kernel
theorem d5_156 : decode prog_11_method_3_code 156 = .ok (.aload 5, 2) := by decide +kernel
theorem d5_158 : decode prog_11_method_3_code 158 = .ok (.astore_n 2, 1) := by decide +kernel
theorem d5_159 : decode prog_11_method_3_code 159 = .ok (.iload 4, 2) := by decide +kernel
theorem d5_161 : decode prog_11_method_3_code 161 = .ok (.iconst 2, 1) := by decide +kernel
theorem d5_162 : decode prog_11_method_3_code 162 = .ok (.imul, 1) := by decide +kernel
theorem d5_163 : decode prog_11_method_3_code 163 = .ok (.istore 4, 2) := by decide +kernel
theorem d5_165 : decode prog_11_method_3_code 165 = .ok (.goto (-152), 3) := by decide +kernel
theorem d5_168 : decode prog_11_method_3_code 168 = .ok (.aload_n 2, 1) := by decide +kernel
theorem d5_169 : decode prog_11_method_3_code 169 = .ok (.aload_n 0, 1) := by decide +kernel
theorem d5_170 : decode prog_11_method_3_code 170 = .ok (.getfield 7, 3) := by decide +kernel
theorem d5_173 : decode prog_11_method_3_code 173 = .ok (.if_acmp .eq 14, 3) := by decide +kernel
theorem d5_176 : decode prog_11_method_3_code 176 = .ok (.aload_n 2, 1) := by decide +kernel
theorem d5_177 : decode prog_11_method_3_code 177 = .ok (.iconst 0, 1) := by decide +kernel
theorem d5_178 : decode prog_11_method_3_code 178 = .ok (.aload_n 0, 1) := by decide +kernel
theorem d5_179 : decode prog_11_method_3_code 179 = .ok (.getfield 7, 3) := by decide +kernel
theorem d5_182 : decode prog_11_method_3_code 182 = .ok (.iconst 0, 1) := by decide +kernel
theorem d5_183 : decode prog_11_method_3_code 183 = .ok (.iload_n 1, 1) := by decide +kernel
theorem d5_184 : decode prog_11_method_3_code 184 = .ok (.invokestatic 30, 3) := by decide +kernel
theorem d5_187 : decode prog_11_method_3_code 187 = .ok (.return_, 1) := by decide +kernel
theorem pn_5 : plainName "com/example/chainwright/chainwright/KeySort" = true := by first | (simp [plainName, overriddenIn]; done) | decide +kernel
theorem pd_5_0 : parseMethodDescriptor "(II)I" = some ⟨[.int, .int], some .int⟩ := by decide +kernel
theorem pd_5_1 : parseMethodDescriptor "(II)Z" = some ⟨[.int, .int], some .boolean⟩ := by decide +kernel
theorem ef_5 (m : MethodId) (x0 : Addr) (x1 : Int32) : entryFrame m #[(.ref x0), (.int x1)] 12 = mkF m 0 #[.val (.ref x0), .val (.int x1), .unset, .unset, .unset, .unset, .unset, .unset, .unset, .unset, .unset, .unset] [] := by first | (simp [entryFrame, mkF, argsToLocals, Value.category]; done) | rfl
def Q5 (Z : State) (ob : Addr) (xn : Int32) (nu : Addr) (ke : Addr) (ro : Addr) (fn : Nat → Int32) (fk : Nat → Int64) (fr : Nat → Int32) (k0 : Nat) (k1 : Nat) (h0 : Heap) (n0 : Nat) (v : Option Value) (h : Heap) (L : List Loc) : Prop := v = none ∧ Fr n0 L ∧ Keep h0 h [nu, ro] ∧ (own_Ai Z h nu .int 2 (if (own_bf fk (fn 1) (fn 0) k1 k0) = 0 then (own_up (own_up fr 0 (fn 0)) 1 (fn 1)) else (own_up (own_up fr 0 (fn 1)) 1 (fn 0))))
set_option maxRecDepth 65536 in
set_option maxHeartbeats 40000000 in
theorem rm5 (l : Launch) (Z : State) (a0 : Array Value) (hw : ∀ d ∈ tables_1, d.before a0 Z = true) (ws : List Jvm.Cond) (ob : Addr) (xn : Int32) (nu : Addr) (ke : Addr) (ro : Addr) (fn : Nat → Int32) (fk : Nat → Int64) (fr : Nat → Int32) (k0 : Nat) (k1 : Nat) (h0 : Heap) (n0 : Nat) (Z0 : n0 ≤ h0.size) (E1 : Exa Z h0 ob "com/example/chainwright/chainwright/KeySort") (F1 : Fld Z h0 ob "com/example/chainwright/chainwright/KeySort" "numbers" "[I" (.ref nu)) (F2 : Fld Z h0 ob "com/example/chainwright/chainwright/KeySort" "keys" "[J" (.ref ke)) (F3 : Fld Z h0 ob "com/example/chainwright/chainwright/KeySort" "room" "[I" (.ref ro)) (A1 : own_Ai Z h0 nu .int 2 fn) (A2 : own_Aj Z h0 ke .long 2 fk) (A3 : own_Ai Z h0 ro .int 2 fr) (G1 : n0 ≤ nu) (G2 : n0 ≤ ro) (NE1 : nu ≠ ke) (NE2 : nu ≠ ro) (NE3 : ke ≠ ro) (NE4 : ob ≠ nu) (NE5 : ob ≠ ro) (HX : xn = (2 : Int32)) (J0 : (fn 0).toInt = (k0 : Int)) (J1 : k0 < 2) (J2 : (fn 1).toInt = (k1 : Int)) (J3 : k1 < 2) :
    MetFree l (⟨"com/example/chainwright/chainwright/KeySort", "sort", "(I)V"⟩ : MethodName) (head1 (Jvm.Cond.code (⟨"com/example/chainwright/chainwright/KeySort", "sort", "(I)V"⟩ : MethodName) prog_11_method_3_code 12 none :: ws) ({ frames := 1, cells := 0, slots := 0, locals := 60 } : Room)) (fun a U => a = #[(.ref ob), (.int xn)] ∧ Z.Warmed39 U.vm ∧ U.heap = h0) (fun _ _ _ _ _ => True) (fun _ U o U' => ∃ v L, o = .returned v ∧ Q5 Z ob xn nu ke ro fn fk fr k0 k1 h0 n0 v U'.heap L ∧ FrameEnd U o U' L ({ frames := 1, cells := 0, slots := 0, locals := 60 } : Room).cells ({ frames := 1, cells := 0, slots := 0, locals := 60 } : Room).slots) := by
  refine MetFree.of_bodySF (plainFor_of_name pn_5) hisR ?_
  intro p e s m args below meth c s₁ Bd hml0 hP hK
  obtain ⟨rfl, hZ, hh⟩ := hP
  have hx := Bd.exec
  have hby := Bd.bytes
  have hlk : meth.locks = false := BodyLoose.notSynchronized Bd
  have hml : c.maxLocals = 12 := hml0
  have hown : s.vm.findClass "com/example/chainwright/chainwright/KeySort" = some m.cls := findClass_of_methodNamed Bd.named
  have hnm := (name_of_methodNamed Bd.named Bd.method).1
  have X0 : Stand p l e ({ frames := 1, cells := 0, slots := 0, locals := 60 } : Room) s m #[(.ref ob), (.int xn)] below meth c s₁ [] 0 0 := Stand.of_body Bd
  have e0 : s₁.heap = h0 := by rw [← hh, Bd.state]; rfl
  have N0 := Fr.nil n0
  have K0 : Keep h0 h0 [nu, ro] := Keep.refl _ _
  show own_Go p e below (own_G s (Q5 Z ob xn nu ke ro fn fk fr k0 k1 h0 n0) ({ frames := 1, cells := 0, slots := 0, locals := 60 } : Room).cells ({ frames := 1, cells := 0, slots := 0, locals := 60 } : Room).slots) (s₁.setTop (entryFrame m #[(.ref ob), (.int xn)] 12))
  refine own_st (fun tgt k => castTop (ef_5 m ob xn) k) ?_
  show own_Go p e below _ (s₁.setTop (mkF m 0 #[.val (.ref ob), .val (.int xn), .unset, .unset, .unset, .unset, .unset, .unset, .unset, .unset, .unset, .unset] []))
  rw [show xn = (2 : Int32) from HX]
  refine own_st (V := s₁.setTop (mkF m 1 #[.val (.ref ob), .val (.int (2 : Int32)), .unset, .unset, .unset, .unset, .unset, .unset, .unset, .unset, .unset, .unset] [(.ref ob)])) (fun tgt k => ?_) ?_
  · show Steps p.tables e below (s₁.setTop (mkF m 0 #[.val (.ref ob), .val (.int (2 : Int32)), .unset, .unset, .unset, .unset, .unset, .unset, .unset, .unset, .unset, .unset] [])) tgt
    refine XS.aloadN X0.here hx rfl (hb hby d5_0) rfl rfl ?_
    exact k
  obtain ⟨T1, X1, e1, st1⟩ := getF X0 hx hZ hown (host := "") (Or.inl (hw _ (List.mem_of_getElem? (i := 10) rfl))) Via.refl e0 F1 (g := (mkF m 1 #[.val (.ref ob), .val (.int (2 : Int32)), .unset, .unset, .unset, .unset, .unset, .unset, .unset, .unset, .unset, .unset] [(.ref ob)])) rfl rfl (hb hby d5_1)
  refine own_st st1 ?_
  show own_Go p e below _ (T1.setTop (mkF m 4 #[.val (.ref ob), .val (.int (2 : Int32)), .unset, .unset, .unset, .unset, .unset, .unset, .unset, .unset, .unset, .unset] [(.ref nu)]))
  refine own_st (V := T1.setTop (mkF m 6 #[.val (.ref ob), .val (.int (2 : Int32)), .val (.ref nu), .unset, .unset, .unset, .unset, .unset, .unset, .unset, .unset, .unset] [(.ref ob)])) (fun tgt k => ?_) ?_
  · show Steps p.tables e below (T1.setTop (mkF m 4 #[.val (.ref ob), .val (.int (2 : Int32)), .unset, .unset, .unset, .unset, .unset, .unset, .unset, .unset, .unset, .unset] [(.ref nu)])) tgt
    refine XS.astoreN X1.here hx rfl (hb hby d5_4) rfl rfl (l' := #[.val (.ref ob), .val (.int (2 : Int32)), .val (.ref nu), .unset, .unset, .unset, .unset, .unset, .unset, .unset, .unset, .unset]) rfl ?_
    show Steps p.tables e below (T1.setTop (mkF m 5 #[.val (.ref ob), .val (.int (2 : Int32)), .val (.ref nu), .unset, .unset, .unset, .unset, .unset, .unset, .unset, .unset, .unset] [])) tgt
    refine XS.aloadN X1.here hx rfl (hb hby d5_5) rfl rfl ?_
    exact k
  obtain ⟨T2, X2, e2, st2⟩ := getF X1 hx hZ hown (host := "") (Or.inl (hw _ (List.mem_of_getElem? (i := 15) rfl))) Via.refl e1 F3 (g := (mkF m 6 #[.val (.ref ob), .val (.int (2 : Int32)), .val (.ref nu), .unset, .unset, .unset, .unset, .unset, .unset, .unset, .unset, .unset] [(.ref ob)])) rfl rfl (hb hby d5_6)
  refine own_st st2 ?_
  show own_Go p e below _ (T2.setTop (mkF m 9 #[.val (.ref ob), .val (.int (2 : Int32)), .val (.ref nu), .unset, .unset, .unset, .unset, .unset, .unset, .unset, .unset, .unset] [(.ref ro)]))
  refine own_st (V := T2.setTop (mkF m 33 #[.val (.ref ob), .val (.int (2 : Int32)), .val (.ref nu), .val (.ref ro), .val (.int (1 : Int32)), .val (.int (0 : Int32)), .unset, .unset, .unset, .unset, .unset, .unset] [(.int ((0 : Int32) + (1 : Int32)))])) (fun tgt k => ?_) ?_
  · show Steps p.tables e below (T2.setTop (mkF m 9 #[.val (.ref ob), .val (.int (2 : Int32)), .val (.ref nu), .unset, .unset, .unset, .unset, .unset, .unset, .unset, .unset, .unset] [(.ref ro)])) tgt
    refine XS.astoreN X2.here hx rfl (hb hby d5_9) rfl rfl (l' := #[.val (.ref ob), .val (.int (2 : Int32)), .val (.ref nu), .val (.ref ro), .unset, .unset, .unset, .unset, .unset, .unset, .unset, .unset]) rfl ?_
    show Steps p.tables e below (T2.setTop (mkF m 10 #[.val (.ref ob), .val (.int (2 : Int32)), .val (.ref nu), .val (.ref ro), .unset, .unset, .unset, .unset, .unset, .unset, .unset, .unset] [])) tgt
    refine XS.iconst X2.here hx rfl (hb hby d5_10) ?_
    show Steps p.tables e below (T2.setTop (mkF m 11 #[.val (.ref ob), .val (.int (2 : Int32)), .val (.ref nu), .val (.ref ro), .unset, .unset, .unset, .unset, .unset, .unset, .unset, .unset] [(.int (1 : Int32))])) tgt
    refine XS.istore X2.here hx rfl (hb hby d5_11) rfl (l' := #[.val (.ref ob), .val (.int (2 : Int32)), .val (.ref nu), .val (.ref ro), .val (.int (1 : Int32)), .unset, .unset, .unset, .unset, .unset, .unset, .unset]) rfl ?_
    show Steps p.tables e below (T2.setTop (mkF m 13 #[.val (.ref ob), .val (.int (2 : Int32)), .val (.ref nu), .val (.ref ro), .val (.int (1 : Int32)), .unset, .unset, .unset, .unset, .unset, .unset, .unset] [])) tgt
    refine XS.iload X2.here hx rfl (hb hby d5_13) rfl ?_
    show Steps p.tables e below (T2.setTop (mkF m 15 #[.val (.ref ob), .val (.int (2 : Int32)), .val (.ref nu), .val (.ref ro), .val (.int (1 : Int32)), .unset, .unset, .unset, .unset, .unset, .unset, .unset] [(.int (1 : Int32))])) tgt
    refine XS.iloadN X2.here hx rfl (hb hby d5_15) rfl ?_
    show Steps p.tables e below (T2.setTop (mkF m 16 #[.val (.ref ob), .val (.int (2 : Int32)), .val (.ref nu), .val (.ref ro), .val (.int (1 : Int32)), .unset, .unset, .unset, .unset, .unset, .unset, .unset] [(.int (2 : Int32)), (.int (1 : Int32))])) tgt
    refine XS.icmpNo X2.here hx rfl (hb hby d5_16) rfl (tlt (by decide : (1 : Int32) < (2 : Int32))).2.1 ?_
    show Steps p.tables e below (T2.setTop (mkF m 19 #[.val (.ref ob), .val (.int (2 : Int32)), .val (.ref nu), .val (.ref ro), .val (.int (1 : Int32)), .unset, .unset, .unset, .unset, .unset, .unset, .unset] [])) tgt
    refine XS.iconst X2.here hx rfl (hb hby d5_19) ?_
    show Steps p.tables e below (T2.setTop (mkF m 20 #[.val (.ref ob), .val (.int (2 : Int32)), .val (.ref nu), .val (.ref ro), .val (.int (1 : Int32)), .unset, .unset, .unset, .unset, .unset, .unset, .unset] [(.int (0 : Int32))])) tgt
    refine XS.istore X2.here hx rfl (hb hby d5_20) rfl (l' := #[.val (.ref ob), .val (.int (2 : Int32)), .val (.ref nu), .val (.ref ro), .val (.int (1 : Int32)), .val (.int (0 : Int32)), .unset, .unset, .unset, .unset, .unset, .unset]) rfl ?_
    show Steps p.tables e below (T2.setTop (mkF m 22 #[.val (.ref ob), .val (.int (2 : Int32)), .val (.ref nu), .val (.ref ro), .val (.int (1 : Int32)), .val (.int (0 : Int32)), .unset, .unset, .unset, .unset, .unset, .unset] [])) tgt
    refine XS.iload X2.here hx rfl (hb hby d5_22) rfl ?_
    show Steps p.tables e below (T2.setTop (mkF m 24 #[.val (.ref ob), .val (.int (2 : Int32)), .val (.ref nu), .val (.ref ro), .val (.int (1 : Int32)), .val (.int (0 : Int32)), .unset, .unset, .unset, .unset, .unset, .unset] [(.int (0 : Int32))])) tgt
    refine XS.iloadN X2.here hx rfl (hb hby d5_24) rfl ?_
    show Steps p.tables e below (T2.setTop (mkF m 25 #[.val (.ref ob), .val (.int (2 : Int32)), .val (.ref nu), .val (.ref ro), .val (.int (1 : Int32)), .val (.int (0 : Int32)), .unset, .unset, .unset, .unset, .unset, .unset] [(.int (2 : Int32)), (.int (0 : Int32))])) tgt
    refine XS.icmpNo X2.here hx rfl (hb hby d5_25) rfl (tlt (by decide : (0 : Int32) < (2 : Int32))).2.1 ?_
    show Steps p.tables e below (T2.setTop (mkF m 28 #[.val (.ref ob), .val (.int (2 : Int32)), .val (.ref nu), .val (.ref ro), .val (.int (1 : Int32)), .val (.int (0 : Int32)), .unset, .unset, .unset, .unset, .unset, .unset] [])) tgt
    refine XS.iload X2.here hx rfl (hb hby d5_28) rfl ?_
    show Steps p.tables e below (T2.setTop (mkF m 30 #[.val (.ref ob), .val (.int (2 : Int32)), .val (.ref nu), .val (.ref ro), .val (.int (1 : Int32)), .val (.int (0 : Int32)), .unset, .unset, .unset, .unset, .unset, .unset] [(.int (0 : Int32))])) tgt
    refine XS.iload X2.here hx rfl (hb hby d5_30) rfl ?_
    show Steps p.tables e below (T2.setTop (mkF m 32 #[.val (.ref ob), .val (.int (2 : Int32)), .val (.ref nu), .val (.ref ro), .val (.int (1 : Int32)), .val (.int (0 : Int32)), .unset, .unset, .unset, .unset, .unset, .unset] [(.int (1 : Int32)), (.int (0 : Int32))])) tgt
    refine XS.iadd X2.here hx rfl (hb hby d5_32) rfl ?_
    exact k
  rw [show ((0 : Int32) + (1 : Int32)) = (1 : Int32) from by decide]
  refine own_st (V := T2.setTop (mkF m 34 #[.val (.ref ob), .val (.int (2 : Int32)), .val (.ref nu), .val (.ref ro), .val (.int (1 : Int32)), .val (.int (0 : Int32)), .unset, .unset, .unset, .unset, .unset, .unset] [(.int (2 : Int32)), (.int (1 : Int32))])) (fun tgt k => ?_) ?_
  · show Steps p.tables e below (T2.setTop (mkF m 33 #[.val (.ref ob), .val (.int (2 : Int32)), .val (.ref nu), .val (.ref ro), .val (.int (1 : Int32)), .val (.int (0 : Int32)), .unset, .unset, .unset, .unset, .unset, .unset] [(.int (1 : Int32))])) tgt
    refine XS.iloadN X2.here hx rfl (hb hby d5_33) rfl ?_
    exact k
  obtain ⟨v3, _, ⟨T3, L3, k3, n3⟩, -, Xc3, ⟨Lc3, hQ3, l3, y3, z3⟩, st3⟩ := Jvm.LawKit.callS X2 hx (y := (⟨"java/lang/Math", "min", "(II)I"⟩ : MethodName)) hown (mvT hZ (hw _ (List.mem_of_getElem? (i := 32) rfl))) (mvT hZ (hw _ (List.mem_of_getElem? (i := 33) rfl))) (mvT hZ (hw _ (List.mem_of_getElem? (i := 34) rfl))) (mvT hZ (hw _ (List.mem_of_getElem? (i := 35) rfl))) (by decide) (backOf (W := 0) (rm6 l Z a0 hw [] (1 : Int32) (2 : Int32) h0 n0 Z0 ) hZ (hw _ (List.mem_of_getElem? (i := 35) rfl)) (hw _ (List.mem_of_getElem? (i := 34) rfl)) (by decide) (by decide)) (g := (mkF m 34 #[.val (.ref ob), .val (.int (2 : Int32)), .val (.ref nu), .val (.ref ro), .val (.int (1 : Int32)), .val (.int (0 : Int32)), .unset, .unset, .unset, .unset, .unset, .unset] [(.int (2 : Int32)), (.int (1 : Int32))])) rfl (by rw [hml]; rfl) (argsL := [(.int (1 : Int32)), (.int (2 : Int32))]) (rest := []) (lenOf pd_5_0 rfl) rfl (by show 2 * 0 + _ ≤ _; exact Nat.le_of_eq rfl) (hb hby d5_34) (fun _ _ => ⟨rfl, e2, (by decide : 0 + 0 ≤ _), (by decide : 0 + 0 ≤ _)⟩)
  dsimp only [Pt.U, Pt.locs, Pt.cells, Pt.slots] at Xc3 l3 y3 z3 st3 hQ3
  have X3 := own_cast Xc3 l3 y3 z3
  obtain ⟨ev3, N3q, K3⟩ := hQ3
  rw [ev3] at st3
  have N3 := Fr.app N0 N3q
  refine own_st st3 ?_
  show own_Go p e below _ (T3.setTop (mkF m 37 #[.val (.ref ob), .val (.int (2 : Int32)), .val (.ref nu), .val (.ref ro), .val (.int (1 : Int32)), .val (.int (0 : Int32)), .unset, .unset, .unset, .unset, .unset, .unset] [(.int (own_min (1 : Int32) (2 : Int32)))]))
  rw [show (own_min (1 : Int32) (2 : Int32)) = (1 : Int32) from by decide]
  refine own_st (V := T3.setTop (mkF m 45 #[.val (.ref ob), .val (.int (2 : Int32)), .val (.ref nu), .val (.ref ro), .val (.int (1 : Int32)), .val (.int (0 : Int32)), .val (.int (1 : Int32)), .unset, .unset, .unset, .unset, .unset] [(.int ((2 : Int32) * (1 : Int32))), (.int (0 : Int32))])) (fun tgt k => ?_) ?_
  · show Steps p.tables e below (T3.setTop (mkF m 37 #[.val (.ref ob), .val (.int (2 : Int32)), .val (.ref nu), .val (.ref ro), .val (.int (1 : Int32)), .val (.int (0 : Int32)), .unset, .unset, .unset, .unset, .unset, .unset] [(.int (1 : Int32))])) tgt
    refine XS.istore X3.here hx rfl (hb hby d5_37) rfl (l' := #[.val (.ref ob), .val (.int (2 : Int32)), .val (.ref nu), .val (.ref ro), .val (.int (1 : Int32)), .val (.int (0 : Int32)), .val (.int (1 : Int32)), .unset, .unset, .unset, .unset, .unset]) rfl ?_
    show Steps p.tables e below (T3.setTop (mkF m 39 #[.val (.ref ob), .val (.int (2 : Int32)), .val (.ref nu), .val (.ref ro), .val (.int (1 : Int32)), .val (.int (0 : Int32)), .val (.int (1 : Int32)), .unset, .unset, .unset, .unset, .unset] [])) tgt
    refine XS.iload X3.here hx rfl (hb hby d5_39) rfl ?_
    show Steps p.tables e below (T3.setTop (mkF m 41 #[.val (.ref ob), .val (.int (2 : Int32)), .val (.ref nu), .val (.ref ro), .val (.int (1 : Int32)), .val (.int (0 : Int32)), .val (.int (1 : Int32)), .unset, .unset, .unset, .unset, .unset] [(.int (0 : Int32))])) tgt
    refine XS.iconst X3.here hx rfl (hb hby d5_41) ?_
    show Steps p.tables e below (T3.setTop (mkF m 42 #[.val (.ref ob), .val (.int (2 : Int32)), .val (.ref nu), .val (.ref ro), .val (.int (1 : Int32)), .val (.int (0 : Int32)), .val (.int (1 : Int32)), .unset, .unset, .unset, .unset, .unset] [(.int (2 : Int32)), (.int (0 : Int32))])) tgt
    refine XS.iload X3.here hx rfl (hb hby d5_42) rfl ?_
    show Steps p.tables e below (T3.setTop (mkF m 44 #[.val (.ref ob), .val (.int (2 : Int32)), .val (.ref nu), .val (.ref ro), .val (.int (1 : Int32)), .val (.int (0 : Int32)), .val (.int (1 : Int32)), .unset, .unset, .unset, .unset, .unset] [(.int (1 : Int32)), (.int (2 : Int32)), (.int (0 : Int32))])) tgt
    refine XS.imul X3.here hx rfl (hb hby d5_44) rfl ?_
    exact k
  rw [show ((2 : Int32) * (1 : Int32)) = (2 : Int32) from by decide]
  refine own_st (V := T3.setTop (mkF m 46 #[.val (.ref ob), .val (.int (2 : Int32)), .val (.ref nu), .val (.ref ro), .val (.int (1 : Int32)), .val (.int (0 : Int32)), .val (.int (1 : Int32)), .unset, .unset, .unset, .unset, .unset] [(.int ((0 : Int32) + (2 : Int32)))])) (fun tgt k => ?_) ?_
  · show Steps p.tables e below (T3.setTop (mkF m 45 #[.val (.ref ob), .val (.int (2 : Int32)), .val (.ref nu), .val (.ref ro), .val (.int (1 : Int32)), .val (.int (0 : Int32)), .val (.int (1 : Int32)), .unset, .unset, .unset, .unset, .unset] [(.int (2 : Int32)), (.int (0 : Int32))])) tgt
    refine XS.iadd X3.here hx rfl (hb hby d5_45) rfl ?_
    exact k
  rw [show ((0 : Int32) + (2 : Int32)) = (2 : Int32) from by decide]
  refine own_st (V := T3.setTop (mkF m 47 #[.val (.ref ob), .val (.int (2 : Int32)), .val (.ref nu), .val (.ref ro), .val (.int (1 : Int32)), .val (.int (0 : Int32)), .val (.int (1 : Int32)), .unset, .unset, .unset, .unset, .unset] [(.int (2 : Int32)), (.int (2 : Int32))])) (fun tgt k => ?_) ?_
  · show Steps p.tables e below (T3.setTop (mkF m 46 #[.val (.ref ob), .val (.int (2 : Int32)), .val (.ref nu), .val (.ref ro), .val (.int (1 : Int32)), .val (.int (0 : Int32)), .val (.int (1 : Int32)), .unset, .unset, .unset, .unset, .unset] [(.int (2 : Int32))])) tgt
    refine XS.iloadN X3.here hx rfl (hb hby d5_46) rfl ?_
    exact k
  obtain ⟨v4, _, ⟨T4, L4, k4, n4⟩, -, Xc4, ⟨Lc4, hQ4, l4, y4, z4⟩, st4⟩ := Jvm.LawKit.callS X3 hx (y := (⟨"java/lang/Math", "min", "(II)I"⟩ : MethodName)) hown (mvT hZ (hw _ (List.mem_of_getElem? (i := 32) rfl))) (mvT hZ (hw _ (List.mem_of_getElem? (i := 33) rfl))) (mvT hZ (hw _ (List.mem_of_getElem? (i := 34) rfl))) (mvT hZ (hw _ (List.mem_of_getElem? (i := 35) rfl))) (by decide) (backOf (W := 0) (rm6 l Z a0 hw [] (2 : Int32) (2 : Int32) h0 n0 Z0 ) hZ (hw _ (List.mem_of_getElem? (i := 35) rfl)) (hw _ (List.mem_of_getElem? (i := 34) rfl)) (by decide) (by decide)) (g := (mkF m 47 #[.val (.ref ob), .val (.int (2 : Int32)), .val (.ref nu), .val (.ref ro), .val (.int (1 : Int32)), .val (.int (0 : Int32)), .val (.int (1 : Int32)), .unset, .unset, .unset, .unset, .unset] [(.int (2 : Int32)), (.int (2 : Int32))])) rfl (by rw [hml]; rfl) (argsL := [(.int (2 : Int32)), (.int (2 : Int32))]) (rest := []) (lenOf pd_5_0 rfl) rfl (by show 2 * 0 + _ ≤ _; exact Nat.le_of_eq rfl) (hb hby d5_47) (fun _ _ => ⟨rfl, K3, (by decide : 0 + 0 ≤ _), (by decide : 0 + 0 ≤ _)⟩)
  dsimp only [Pt.U, Pt.locs, Pt.cells, Pt.slots] at Xc4 l4 y4 z4 st4 hQ4
  have X4 := own_cast Xc4 l4 y4 z4
  obtain ⟨ev4, N4q, K4⟩ := hQ4
  rw [ev4] at st4
  have N4 := Fr.app N3 N4q
  refine own_st st4 ?_
  show own_Go p e below _ (T4.setTop (mkF m 50 #[.val (.ref ob), .val (.int (2 : Int32)), .val (.ref nu), .val (.ref ro), .val (.int (1 : Int32)), .val (.int (0 : Int32)), .val (.int (1 : Int32)), .unset, .unset, .unset, .unset, .unset] [(.int (own_min (2 : Int32) (2 : Int32)))]))
  rw [show (own_min (2 : Int32) (2 : Int32)) = (2 : Int32) from by decide]
  refine own_st (V := T4.setTop (mkF m 94 #[.val (.ref ob), .val (.int (2 : Int32)), .val (.ref nu), .val (.ref ro), .val (.int (1 : Int32)), .val (.int (0 : Int32)), .val (.int (1 : Int32)), .val (.int (2 : Int32)), .val (.int (0 : Int32)), .val (.int (1 : Int32)), .val (.int (0 : Int32)), .unset] [(.int (fn 0)), (.int (fn 1)), (.ref ob)])) (fun tgt k => ?_) ?_
  · show Steps p.tables e below (T4.setTop (mkF m 50 #[.val (.ref ob), .val (.int (2 : Int32)), .val (.ref nu), .val (.ref ro), .val (.int (1 : Int32)), .val (.int (0 : Int32)), .val (.int (1 : Int32)), .unset, .unset, .unset, .unset, .unset] [(.int (2 : Int32))])) tgt
    refine XS.istore X4.here hx rfl (hb hby d5_50) rfl (l' := #[.val (.ref ob), .val (.int (2 : Int32)), .val (.ref nu), .val (.ref ro), .val (.int (1 : Int32)), .val (.int (0 : Int32)), .val (.int (1 : Int32)), .val (.int (2 : Int32)), .unset, .unset, .unset, .unset]) rfl ?_
    show Steps p.tables e below (T4.setTop (mkF m 52 #[.val (.ref ob), .val (.int (2 : Int32)), .val (.ref nu), .val (.ref ro), .val (.int (1 : Int32)), .val (.int (0 : Int32)), .val (.int (1 : Int32)), .val (.int (2 : Int32)), .unset, .unset, .unset, .unset] [])) tgt
    refine XS.iload X4.here hx rfl (hb hby d5_52) rfl ?_
    show Steps p.tables e below (T4.setTop (mkF m 54 #[.val (.ref ob), .val (.int (2 : Int32)), .val (.ref nu), .val (.ref ro), .val (.int (1 : Int32)), .val (.int (0 : Int32)), .val (.int (1 : Int32)), .val (.int (2 : Int32)), .unset, .unset, .unset, .unset] [(.int (0 : Int32))])) tgt
    refine XS.istore X4.here hx rfl (hb hby d5_54) rfl (l' := #[.val (.ref ob), .val (.int (2 : Int32)), .val (.ref nu), .val (.ref ro), .val (.int (1 : Int32)), .val (.int (0 : Int32)), .val (.int (1 : Int32)), .val (.int (2 : Int32)), .val (.int (0 : Int32)), .unset, .unset, .unset]) rfl ?_
    show Steps p.tables e below (T4.setTop (mkF m 56 #[.val (.ref ob), .val (.int (2 : Int32)), .val (.ref nu), .val (.ref ro), .val (.int (1 : Int32)), .val (.int (0 : Int32)), .val (.int (1 : Int32)), .val (.int (2 : Int32)), .val (.int (0 : Int32)), .unset, .unset, .unset] [])) tgt
    refine XS.iload X4.here hx rfl (hb hby d5_56) rfl ?_
    show Steps p.tables e below (T4.setTop (mkF m 58 #[.val (.ref ob), .val (.int (2 : Int32)), .val (.ref nu), .val (.ref ro), .val (.int (1 : Int32)), .val (.int (0 : Int32)), .val (.int (1 : Int32)), .val (.int (2 : Int32)), .val (.int (0 : Int32)), .unset, .unset, .unset] [(.int (1 : Int32))])) tgt
    refine XS.istore X4.here hx rfl (hb hby d5_58) rfl (l' := #[.val (.ref ob), .val (.int (2 : Int32)), .val (.ref nu), .val (.ref ro), .val (.int (1 : Int32)), .val (.int (0 : Int32)), .val (.int (1 : Int32)), .val (.int (2 : Int32)), .val (.int (0 : Int32)), .val (.int (1 : Int32)), .unset, .unset]) rfl ?_
    show Steps p.tables e below (T4.setTop (mkF m 60 #[.val (.ref ob), .val (.int (2 : Int32)), .val (.ref nu), .val (.ref ro), .val (.int (1 : Int32)), .val (.int (0 : Int32)), .val (.int (1 : Int32)), .val (.int (2 : Int32)), .val (.int (0 : Int32)), .val (.int (1 : Int32)), .unset, .unset] [])) tgt
    refine XS.iload X4.here hx rfl (hb hby d5_60) rfl ?_
    show Steps p.tables e below (T4.setTop (mkF m 62 #[.val (.ref ob), .val (.int (2 : Int32)), .val (.ref nu), .val (.ref ro), .val (.int (1 : Int32)), .val (.int (0 : Int32)), .val (.int (1 : Int32)), .val (.int (2 : Int32)), .val (.int (0 : Int32)), .val (.int (1 : Int32)), .unset, .unset] [(.int (0 : Int32))])) tgt
    refine XS.istore X4.here hx rfl (hb hby d5_62) rfl (l' := #[.val (.ref ob), .val (.int (2 : Int32)), .val (.ref nu), .val (.ref ro), .val (.int (1 : Int32)), .val (.int (0 : Int32)), .val (.int (1 : Int32)), .val (.int (2 : Int32)), .val (.int (0 : Int32)), .val (.int (1 : Int32)), .val (.int (0 : Int32)), .unset]) rfl ?_
    show Steps p.tables e below (T4.setTop (mkF m 64 #[.val (.ref ob), .val (.int (2 : Int32)), .val (.ref nu), .val (.ref ro), .val (.int (1 : Int32)), .val (.int (0 : Int32)), .val (.int (1 : Int32)), .val (.int (2 : Int32)), .val (.int (0 : Int32)), .val (.int (1 : Int32)), .val (.int (0 : Int32)), .unset] [])) tgt
    refine XS.iload X4.here hx rfl (hb hby d5_64) rfl ?_
    show Steps p.tables e below (T4.setTop (mkF m 66 #[.val (.ref ob), .val (.int (2 : Int32)), .val (.ref nu), .val (.ref ro), .val (.int (1 : Int32)), .val (.int (0 : Int32)), .val (.int (1 : Int32)), .val (.int (2 : Int32)), .val (.int (0 : Int32)), .val (.int (1 : Int32)), .val (.int (0 : Int32)), .unset] [(.int (0 : Int32))])) tgt
    refine XS.iload X4.here hx rfl (hb hby d5_66) rfl ?_
    show Steps p.tables e below (T4.setTop (mkF m 68 #[.val (.ref ob), .val (.int (2 : Int32)), .val (.ref nu), .val (.ref ro), .val (.int (1 : Int32)), .val (.int (0 : Int32)), .val (.int (1 : Int32)), .val (.int (2 : Int32)), .val (.int (0 : Int32)), .val (.int (1 : Int32)), .val (.int (0 : Int32)), .unset] [(.int (2 : Int32)), (.int (0 : Int32))])) tgt
    refine XS.icmpNo X4.here hx rfl (hb hby d5_68) rfl (tlt (by decide : (0 : Int32) < (2 : Int32))).2.1 ?_
    show Steps p.tables e below (T4.setTop (mkF m 71 #[.val (.ref ob), .val (.int (2 : Int32)), .val (.ref nu), .val (.ref ro), .val (.int (1 : Int32)), .val (.int (0 : Int32)), .val (.int (1 : Int32)), .val (.int (2 : Int32)), .val (.int (0 : Int32)), .val (.int (1 : Int32)), .val (.int (0 : Int32)), .unset] [])) tgt
    refine XS.iload X4.here hx rfl (hb hby d5_71) rfl ?_
    show Steps p.tables e below (T4.setTop (mkF m 73 #[.val (.ref ob), .val (.int (2 : Int32)), .val (.ref nu), .val (.ref ro), .val (.int (1 : Int32)), .val (.int (0 : Int32)), .val (.int (1 : Int32)), .val (.int (2 : Int32)), .val (.int (0 : Int32)), .val (.int (1 : Int32)), .val (.int (0 : Int32)), .unset] [(.int (1 : Int32))])) tgt
    refine XS.iload X4.here hx rfl (hb hby d5_73) rfl ?_
    show Steps p.tables e below (T4.setTop (mkF m 75 #[.val (.ref ob), .val (.int (2 : Int32)), .val (.ref nu), .val (.ref ro), .val (.int (1 : Int32)), .val (.int (0 : Int32)), .val (.int (1 : Int32)), .val (.int (2 : Int32)), .val (.int (0 : Int32)), .val (.int (1 : Int32)), .val (.int (0 : Int32)), .unset] [(.int (2 : Int32)), (.int (1 : Int32))])) tgt
    refine XS.icmpNo X4.here hx rfl (hb hby d5_75) rfl (feq (by decide : ¬ ((1 : Int32) = (2 : Int32)))).1 ?_
    show Steps p.tables e below (T4.setTop (mkF m 78 #[.val (.ref ob), .val (.int (2 : Int32)), .val (.ref nu), .val (.ref ro), .val (.int (1 : Int32)), .val (.int (0 : Int32)), .val (.int (1 : Int32)), .val (.int (2 : Int32)), .val (.int (0 : Int32)), .val (.int (1 : Int32)), .val (.int (0 : Int32)), .unset] [])) tgt
    refine XS.iload X4.here hx rfl (hb hby d5_78) rfl ?_
    show Steps p.tables e below (T4.setTop (mkF m 80 #[.val (.ref ob), .val (.int (2 : Int32)), .val (.ref nu), .val (.ref ro), .val (.int (1 : Int32)), .val (.int (0 : Int32)), .val (.int (1 : Int32)), .val (.int (2 : Int32)), .val (.int (0 : Int32)), .val (.int (1 : Int32)), .val (.int (0 : Int32)), .unset] [(.int (0 : Int32))])) tgt
    refine XS.iload X4.here hx rfl (hb hby d5_80) rfl ?_
    show Steps p.tables e below (T4.setTop (mkF m 82 #[.val (.ref ob), .val (.int (2 : Int32)), .val (.ref nu), .val (.ref ro), .val (.int (1 : Int32)), .val (.int (0 : Int32)), .val (.int (1 : Int32)), .val (.int (2 : Int32)), .val (.int (0 : Int32)), .val (.int (1 : Int32)), .val (.int (0 : Int32)), .unset] [(.int (1 : Int32)), (.int (0 : Int32))])) tgt
    refine XS.icmpNo X4.here hx rfl (hb hby d5_82) rfl (tlt (by decide : (0 : Int32) < (1 : Int32))).2.1 ?_
    show Steps p.tables e below (T4.setTop (mkF m 85 #[.val (.ref ob), .val (.int (2 : Int32)), .val (.ref nu), .val (.ref ro), .val (.int (1 : Int32)), .val (.int (0 : Int32)), .val (.int (1 : Int32)), .val (.int (2 : Int32)), .val (.int (0 : Int32)), .val (.int (1 : Int32)), .val (.int (0 : Int32)), .unset] [])) tgt
    refine XS.aloadN X4.here hx rfl (hb hby d5_85) rfl rfl ?_
    show Steps p.tables e below (T4.setTop (mkF m 86 #[.val (.ref ob), .val (.int (2 : Int32)), .val (.ref nu), .val (.ref ro), .val (.int (1 : Int32)), .val (.int (0 : Int32)), .val (.int (1 : Int32)), .val (.int (2 : Int32)), .val (.int (0 : Int32)), .val (.int (1 : Int32)), .val (.int (0 : Int32)), .unset] [(.ref ob)])) tgt
    refine XS.aloadN X4.here hx rfl (hb hby d5_86) rfl rfl ?_
    show Steps p.tables e below (T4.setTop (mkF m 87 #[.val (.ref ob), .val (.int (2 : Int32)), .val (.ref nu), .val (.ref ro), .val (.int (1 : Int32)), .val (.int (0 : Int32)), .val (.int (1 : Int32)), .val (.int (2 : Int32)), .val (.int (0 : Int32)), .val (.int (1 : Int32)), .val (.int (0 : Int32)), .unset] [(.ref nu), (.ref ob)])) tgt
    refine XS.iload X4.here hx rfl (hb hby d5_87) rfl ?_
    show Steps p.tables e below (T4.setTop (mkF m 89 #[.val (.ref ob), .val (.int (2 : Int32)), .val (.ref nu), .val (.ref ro), .val (.int (1 : Int32)), .val (.int (0 : Int32)), .val (.int (1 : Int32)), .val (.int (2 : Int32)), .val (.int (0 : Int32)), .val (.int (1 : Int32)), .val (.int (0 : Int32)), .unset] [(.int (1 : Int32)), (.ref nu), (.ref ob)])) tgt
    refine own_iaload X4 hx hZ K4 A1 (j := (1 : Int32)) (k := 1) rfl (by decide) (g := (mkF m 89 #[.val (.ref ob), .val (.int (2 : Int32)), .val (.ref nu), .val (.ref ro), .val (.int (1 : Int32)), .val (.int (0 : Int32)), .val (.int (1 : Int32)), .val (.int (2 : Int32)), .val (.int (0 : Int32)), .val (.int (1 : Int32)), .val (.int (0 : Int32)), .unset] [(.int (1 : Int32)), (.ref nu), (.ref ob)])) rfl rfl (hb hby d5_89) ?_
    show Steps p.tables e below (T4.setTop (mkF m 90 #[.val (.ref ob), .val (.int (2 : Int32)), .val (.ref nu), .val (.ref ro), .val (.int (1 : Int32)), .val (.int (0 : Int32)), .val (.int (1 : Int32)), .val (.int (2 : Int32)), .val (.int (0 : Int32)), .val (.int (1 : Int32)), .val (.int (0 : Int32)), .unset] [(.int (fn 1)), (.ref ob)])) tgt
    refine XS.aloadN X4.here hx rfl (hb hby d5_90) rfl rfl ?_
    show Steps p.tables e below (T4.setTop (mkF m 91 #[.val (.ref ob), .val (.int (2 : Int32)), .val (.ref nu), .val (.ref ro), .val (.int (1 : Int32)), .val (.int (0 : Int32)), .val (.int (1 : Int32)), .val (.int (2 : Int32)), .val (.int (0 : Int32)), .val (.int (1 : Int32)), .val (.int (0 : Int32)), .unset] [(.ref nu), (.int (fn 1)), (.ref ob)])) tgt
    refine XS.iload X4.here hx rfl (hb hby d5_91) rfl ?_
    show Steps p.tables e below (T4.setTop (mkF m 93 #[.val (.ref ob), .val (.int (2 : Int32)), .val (.ref nu), .val (.ref ro), .val (.int (1 : Int32)), .val (.int (0 : Int32)), .val (.int (1 : Int32)), .val (.int (2 : Int32)), .val (.int (0 : Int32)), .val (.int (1 : Int32)), .val (.int (0 : Int32)), .unset] [(.int (0 : Int32)), (.ref nu), (.int (fn 1)), (.ref ob)])) tgt
    refine own_iaload X4 hx hZ K4 A1 (j := (0 : Int32)) (k := 0) rfl (by decide) (g := (mkF m 93 #[.val (.ref ob), .val (.int (2 : Int32)), .val (.ref nu), .val (.ref ro), .val (.int (1 : Int32)), .val (.int (0 : Int32)), .val (.int (1 : Int32)), .val (.int (2 : Int32)), .val (.int (0 : Int32)), .val (.int (1 : Int32)), .val (.int (0 : Int32)), .unset] [(.int (0 : Int32)), (.ref nu), (.int (fn 1)), (.ref ob)])) rfl rfl (hb hby d5_93) ?_
    exact k
  obtain ⟨cq5, q5, q5'⟩ := E1.cell
  obtain ⟨v5, _, ⟨T5, L5, k5, n5⟩, -, Xc5, ⟨Lc5, hQ5, l5, y5, z5⟩, st5⟩ := X4.privateBack hx (y := (⟨"com/example/chainwright/chainwright/KeySort", "before", "(II)Z"⟩ : MethodName)) hown (mvT hZ (hw _ (List.mem_of_getElem? (i := 36) rfl))) (mvT hZ (hw _ (List.mem_of_getElem? (i := 37) rfl))) (own_selp (y := (⟨"com/example/chainwright/chainwright/KeySort", "before", "(II)Z"⟩ : MethodName)) hZ (hw _ (List.mem_of_getElem? (i := 1) rfl)) (hw _ (List.mem_of_getElem? (i := 38) rfl)) (hw _ (List.mem_of_getElem? (i := 37) rfl)) (by decide)) (Cond.privateMethod_at (mvP hZ (hw _ (List.mem_of_getElem? (i := 38) rfl)) (args := #[]))) (mvT hZ (hw _ (List.mem_of_getElem? (i := 39) rfl))) (by decide) (backOf (W := 0) (rm7 l Z a0 hw [] ob (fn 1) (fn 0) ke fk k1 k0 h0 n0 Z0 F2 A2 J2 J3 J0 J1) hZ (hw _ (List.mem_of_getElem? (i := 39) rfl)) (hw _ (List.mem_of_getElem? (i := 2) rfl)) (by decide) (by decide)) (g := (mkF m 94 #[.val (.ref ob), .val (.int (2 : Int32)), .val (.ref nu), .val (.ref ro), .val (.int (1 : Int32)), .val (.int (0 : Int32)), .val (.int (1 : Int32)), .val (.int (2 : Int32)), .val (.int (0 : Int32)), .val (.int (1 : Int32)), .val (.int (0 : Int32)), .unset] [(.int (fn 0)), (.int (fn 1)), (.ref ob)])) rfl (by rw [hml]; rfl) (Steps.refl _) (a := ob) (by rw [K4]; exact q5) q5' (argsL := [(.int (fn 1)), (.int (fn 0))]) (rest := []) (lenOf pd_5_1 rfl) rfl (by show 2 * 0 + _ ≤ _; exact Nat.le_of_eq rfl) (hb hby d5_94) (fun _ _ => ⟨rfl, K4, (by decide : 0 + 0 ≤ _), (by decide : 0 + 0 ≤ _)⟩)
  dsimp only [Pt.U, Pt.locs, Pt.cells, Pt.slots] at Xc5 l5 y5 z5 st5 hQ5
  have X5 := own_cast Xc5 l5 y5 z5
  obtain ⟨ev5, N5q, K5⟩ := hQ5
  rw [ev5] at st5
  have N5 := Fr.app N4 N5q
  refine own_st (fun tgt k => st5.trans k) ?_
  show own_Go p e below _ (T5.setTop (mkF m 97 #[.val (.ref ob), .val (.int (2 : Int32)), .val (.ref nu), .val (.ref ro), .val (.int (1 : Int32)), .val (.int (0 : Int32)), .val (.int (1 : Int32)), .val (.int (2 : Int32)), .val (.int (0 : Int32)), .val (.int (1 : Int32)), .val (.int (0 : Int32)), .unset] [(.int (own_bf fk (fn 1) (fn 0) k1 k0))]))
  by_cases hc97 : (own_bf fk (fn 1) (fn 0) k1 k0) = (0 : Int32)
  · skip
    refine own_st (V := T5.setTop (mkF m 121 #[.val (.ref ob), .val (.int (2 : Int32)), .val (.ref nu), .val (.ref ro), .val (.int (1 : Int32)), .val (.int (0 : Int32)), .val (.int (1 : Int32)), .val (.int (2 : Int32)), .val (.int ((0 : Int32) + (1 : Int32))), .val (.int (1 : Int32)), .val (.int (0 : Int32)), .val (.int (1 : Int32))] [(.int (0 : Int32)), (.ref nu), (.int (0 : Int32)), (.ref ro)])) (fun tgt k => ?_) ?_
    · show Steps p.tables e below (T5.setTop (mkF m 97 #[.val (.ref ob), .val (.int (2 : Int32)), .val (.ref nu), .val (.ref ro), .val (.int (1 : Int32)), .val (.int (0 : Int32)), .val (.int (1 : Int32)), .val (.int (2 : Int32)), .val (.int (0 : Int32)), .val (.int (1 : Int32)), .val (.int (0 : Int32)), .unset] [(.int (own_bf fk (fn 1) (fn 0) k1 k0))])) tgt
      refine XS.ifNo X5.here hx rfl (hb hby d5_97) rfl ((if0 _ _).trans (teq hc97).2) ?_
      show Steps p.tables e below (T5.setTop (mkF m 100 #[.val (.ref ob), .val (.int (2 : Int32)), .val (.ref nu), .val (.ref ro), .val (.int (1 : Int32)), .val (.int (0 : Int32)), .val (.int (1 : Int32)), .val (.int (2 : Int32)), .val (.int (0 : Int32)), .val (.int (1 : Int32)), .val (.int (0 : Int32)), .unset] [])) tgt
      refine XS.iconst X5.here hx rfl (hb hby d5_100) ?_
      show Steps p.tables e below (T5.setTop (mkF m 101 #[.val (.ref ob), .val (.int (2 : Int32)), .val (.ref nu), .val (.ref ro), .val (.int (1 : Int32)), .val (.int (0 : Int32)), .val (.int (1 : Int32)), .val (.int (2 : Int32)), .val (.int (0 : Int32)), .val (.int (1 : Int32)), .val (.int (0 : Int32)), .unset] [(.int (1 : Int32))])) tgt
      refine XS.goto X5.here hx rfl (pc0 := 101) (pc' := 105) rfl (hb hby d5_101) (by decide) (by decide) ?_
      show Steps p.tables e below (T5.setTop (mkF m 105 #[.val (.ref ob), .val (.int (2 : Int32)), .val (.ref nu), .val (.ref ro), .val (.int (1 : Int32)), .val (.int (0 : Int32)), .val (.int (1 : Int32)), .val (.int (2 : Int32)), .val (.int (0 : Int32)), .val (.int (1 : Int32)), .val (.int (0 : Int32)), .unset] [(.int (1 : Int32))])) tgt
      refine XS.istore X5.here hx rfl (hb hby d5_105) rfl (l' := #[.val (.ref ob), .val (.int (2 : Int32)), .val (.ref nu), .val (.ref ro), .val (.int (1 : Int32)), .val (.int (0 : Int32)), .val (.int (1 : Int32)), .val (.int (2 : Int32)), .val (.int (0 : Int32)), .val (.int (1 : Int32)), .val (.int (0 : Int32)), .val (.int (1 : Int32))]) rfl ?_
      show Steps p.tables e below (T5.setTop (mkF m 107 #[.val (.ref ob), .val (.int (2 : Int32)), .val (.ref nu), .val (.ref ro), .val (.int (1 : Int32)), .val (.int (0 : Int32)), .val (.int (1 : Int32)), .val (.int (2 : Int32)), .val (.int (0 : Int32)), .val (.int (1 : Int32)), .val (.int (0 : Int32)), .val (.int (1 : Int32))] [])) tgt
      refine XS.aloadN X5.here hx rfl (hb hby d5_107) rfl rfl ?_
      show Steps p.tables e below (T5.setTop (mkF m 108 #[.val (.ref ob), .val (.int (2 : Int32)), .val (.ref nu), .val (.ref ro), .val (.int (1 : Int32)), .val (.int (0 : Int32)), .val (.int (1 : Int32)), .val (.int (2 : Int32)), .val (.int (0 : Int32)), .val (.int (1 : Int32)), .val (.int (0 : Int32)), .val (.int (1 : Int32))] [(.ref ro)])) tgt
      refine XS.iload X5.here hx rfl (hb hby d5_108) rfl ?_
      show Steps p.tables e below (T5.setTop (mkF m 110 #[.val (.ref ob), .val (.int (2 : Int32)), .val (.ref nu), .val (.ref ro), .val (.int (1 : Int32)), .val (.int (0 : Int32)), .val (.int (1 : Int32)), .val (.int (2 : Int32)), .val (.int (0 : Int32)), .val (.int (1 : Int32)), .val (.int (0 : Int32)), .val (.int (1 : Int32))] [(.int (0 : Int32)), (.ref ro)])) tgt
      refine XS.iload X5.here hx rfl (hb hby d5_110) rfl ?_
      show Steps p.tables e below (T5.setTop (mkF m 112 #[.val (.ref ob), .val (.int (2 : Int32)), .val (.ref nu), .val (.ref ro), .val (.int (1 : Int32)), .val (.int (0 : Int32)), .val (.int (1 : Int32)), .val (.int (2 : Int32)), .val (.int (0 : Int32)), .val (.int (1 : Int32)), .val (.int (0 : Int32)), .val (.int (1 : Int32))] [(.int (1 : Int32)), (.int (0 : Int32)), (.ref ro)])) tgt
      refine XS.ifNo X5.here hx rfl (hb hby d5_112) rfl ((if0 _ _).trans (feq (by decide : ¬ ((1 : Int32) = (0 : Int32)))).1) ?_
      show Steps p.tables e below (T5.setTop (mkF m 115 #[.val (.ref ob), .val (.int (2 : Int32)), .val (.ref nu), .val (.ref ro), .val (.int (1 : Int32)), .val (.int (0 : Int32)), .val (.int (1 : Int32)), .val (.int (2 : Int32)), .val (.int (0 : Int32)), .val (.int (1 : Int32)), .val (.int (0 : Int32)), .val (.int (1 : Int32))] [(.int (0 : Int32)), (.ref ro)])) tgt
      refine XS.aloadN X5.here hx rfl (hb hby d5_115) rfl rfl ?_
      show Steps p.tables e below (T5.setTop (mkF m 116 #[.val (.ref ob), .val (.int (2 : Int32)), .val (.ref nu), .val (.ref ro), .val (.int (1 : Int32)), .val (.int (0 : Int32)), .val (.int (1 : Int32)), .val (.int (2 : Int32)), .val (.int (0 : Int32)), .val (.int (1 : Int32)), .val (.int (0 : Int32)), .val (.int (1 : Int32))] [(.ref nu), (.int (0 : Int32)), (.ref ro)])) tgt
      refine XS.iload X5.here hx rfl (hb hby d5_116) rfl ?_
      show Steps p.tables e below (T5.setTop (mkF m 118 #[.val (.ref ob), .val (.int (2 : Int32)), .val (.ref nu), .val (.ref ro), .val (.int (1 : Int32)), .val (.int (0 : Int32)), .val (.int (1 : Int32)), .val (.int (2 : Int32)), .val (.int (0 : Int32)), .val (.int (1 : Int32)), .val (.int (0 : Int32)), .val (.int (1 : Int32))] [(.int (0 : Int32)), (.ref nu), (.int (0 : Int32)), (.ref ro)])) tgt
      refine XS.iinc X5.here hx rfl (hb hby d5_118) rfl (l' := #[.val (.ref ob), .val (.int (2 : Int32)), .val (.ref nu), .val (.ref ro), .val (.int (1 : Int32)), .val (.int (0 : Int32)), .val (.int (1 : Int32)), .val (.int (2 : Int32)), .val (.int ((0 : Int32) + (1 : Int32))), .val (.int (1 : Int32)), .val (.int (0 : Int32)), .val (.int (1 : Int32))]) rfl ?_
      exact k
    rw [show ((0 : Int32) + (1 : Int32)) = (1 : Int32) from by decide]
    refine own_st (V := T5.setTop (mkF m 132 #[.val (.ref ob), .val (.int (2 : Int32)), .val (.ref nu), .val (.ref ro), .val (.int (1 : Int32)), .val (.int (0 : Int32)), .val (.int (1 : Int32)), .val (.int (2 : Int32)), .val (.int (1 : Int32)), .val (.int (1 : Int32)), .val (.int (0 : Int32)), .val (.int (1 : Int32))] [(.int (fn 0)), (.int (0 : Int32)), (.ref ro)])) (fun tgt k => ?_) ?_
    · show Steps p.tables e below (T5.setTop (mkF m 121 #[.val (.ref ob), .val (.int (2 : Int32)), .val (.ref nu), .val (.ref ro), .val (.int (1 : Int32)), .val (.int (0 : Int32)), .val (.int (1 : Int32)), .val (.int (2 : Int32)), .val (.int (1 : Int32)), .val (.int (1 : Int32)), .val (.int (0 : Int32)), .val (.int (1 : Int32))] [(.int (0 : Int32)), (.ref nu), (.int (0 : Int32)), (.ref ro)])) tgt
      refine own_iaload X5 hx hZ K5 A1 (j := (0 : Int32)) (k := 0) rfl (by decide) (g := (mkF m 121 #[.val (.ref ob), .val (.int (2 : Int32)), .val (.ref nu), .val (.ref ro), .val (.int (1 : Int32)), .val (.int (0 : Int32)), .val (.int (1 : Int32)), .val (.int (2 : Int32)), .val (.int (1 : Int32)), .val (.int (1 : Int32)), .val (.int (0 : Int32)), .val (.int (1 : Int32))] [(.int (0 : Int32)), (.ref nu), (.int (0 : Int32)), (.ref ro)])) rfl rfl (hb hby d5_121) ?_
      show Steps p.tables e below (T5.setTop (mkF m 122 #[.val (.ref ob), .val (.int (2 : Int32)), .val (.ref nu), .val (.ref ro), .val (.int (1 : Int32)), .val (.int (0 : Int32)), .val (.int (1 : Int32)), .val (.int (2 : Int32)), .val (.int (1 : Int32)), .val (.int (1 : Int32)), .val (.int (0 : Int32)), .val (.int (1 : Int32))] [(.int (fn 0)), (.int (0 : Int32)), (.ref ro)])) tgt
      refine XS.goto X5.here hx rfl (pc0 := 122) (pc' := 132) rfl (hb hby d5_122) (by decide) (by decide) ?_
      exact k
    obtain ⟨T6, h6, X6, e6, W6, A_ro_6, st6⟩ := own_iastore X5 hx hZ K5 A3 (j := (0 : Int32)) (k := 0) rfl (by decide) (g := (mkF m 132 #[.val (.ref ob), .val (.int (2 : Int32)), .val (.ref nu), .val (.ref ro), .val (.int (1 : Int32)), .val (.int (0 : Int32)), .val (.int (1 : Int32)), .val (.int (2 : Int32)), .val (.int (1 : Int32)), .val (.int (1 : Int32)), .val (.int (0 : Int32)), .val (.int (1 : Int32))] [(.int (fn 0)), (.int (0 : Int32)), (.ref ro)])) rfl rfl (hb hby d5_132)
    have E_ob_6 := E1.wr W6
    have F_ob_numbers_6 := Fld.other W6 F1 (Or.inl NE5)
    have F_ob_keys_6 := Fld.other W6 F2 (Or.inl NE5)
    have F_ob_room_6 := Fld.other W6 F3 (Or.inl NE5)
    have A_nu_6 := A1.other W6 NE2
    have A_ke_6 := A2.other W6 NE3
    have N6 := Fr.snoc X6 N5 G2
    have Zs6 : n0 ≤ h6.size := Nat.le_trans Z0 (Keep.of_wr W6).1
    have Kp6 := K0.wr W6 (Or.inl (List.mem_of_getElem? (i := 1) rfl))
    refine own_st st6 ?_
    show own_Go p e below _ (T6.setTop (mkF m 133 #[.val (.ref ob), .val (.int (2 : Int32)), .val (.ref nu), .val (.ref ro), .val (.int (1 : Int32)), .val (.int (0 : Int32)), .val (.int (1 : Int32)), .val (.int (2 : Int32)), .val (.int (1 : Int32)), .val (.int (1 : Int32)), .val (.int (0 : Int32)), .val (.int (1 : Int32))] []))
    refine own_st (V := T6.setTop (mkF m 136 #[.val (.ref ob), .val (.int (2 : Int32)), .val (.ref nu), .val (.ref ro), .val (.int (1 : Int32)), .val (.int (0 : Int32)), .val (.int (1 : Int32)), .val (.int (2 : Int32)), .val (.int (1 : Int32)), .val (.int (1 : Int32)), .val (.int ((0 : Int32) + (1 : Int32))), .val (.int (1 : Int32))] [])) (fun tgt k => ?_) ?_
    · show Steps p.tables e below (T6.setTop (mkF m 133 #[.val (.ref ob), .val (.int (2 : Int32)), .val (.ref nu), .val (.ref ro), .val (.int (1 : Int32)), .val (.int (0 : Int32)), .val (.int (1 : Int32)), .val (.int (2 : Int32)), .val (.int (1 : Int32)), .val (.int (1 : Int32)), .val (.int (0 : Int32)), .val (.int (1 : Int32))] [])) tgt
      refine XS.iinc X6.here hx rfl (hb hby d5_133) rfl (l' := #[.val (.ref ob), .val (.int (2 : Int32)), .val (.ref nu), .val (.ref ro), .val (.int (1 : Int32)), .val (.int (0 : Int32)), .val (.int (1 : Int32)), .val (.int (2 : Int32)), .val (.int (1 : Int32)), .val (.int (1 : Int32)), .val (.int ((0 : Int32) + (1 : Int32))), .val (.int (1 : Int32))]) rfl ?_
      exact k
    rw [show ((0 : Int32) + (1 : Int32)) = (1 : Int32) from by decide]
    refine own_st (V := T6.setTop (mkF m 131 #[.val (.ref ob), .val (.int (2 : Int32)), .val (.ref nu), .val (.ref ro), .val (.int (1 : Int32)), .val (.int (0 : Int32)), .val (.int (1 : Int32)), .val (.int (2 : Int32)), .val (.int (1 : Int32)), .val (.int ((1 : Int32) + (1 : Int32))), .val (.int (1 : Int32)), .val (.int (0 : Int32))] [(.int (1 : Int32)), (.ref nu), (.int (1 : Int32)), (.ref ro)])) (fun tgt k => ?_) ?_
    · show Steps p.tables e below (T6.setTop (mkF m 136 #[.val (.ref ob), .val (.int (2 : Int32)), .val (.ref nu), .val (.ref ro), .val (.int (1 : Int32)), .val (.int (0 : Int32)), .val (.int (1 : Int32)), .val (.int (2 : Int32)), .val (.int (1 : Int32)), .val (.int (1 : Int32)), .val (.int (1 : Int32)), .val (.int (1 : Int32))] [])) tgt
      refine XS.goto X6.here hx rfl (pc0 := 136) (pc' := 64) rfl (hb hby d5_136) (by decide) (by decide) ?_
      show Steps p.tables e below (T6.setTop (mkF m 64 #[.val (.ref ob), .val (.int (2 : Int32)), .val (.ref nu), .val (.ref ro), .val (.int (1 : Int32)), .val (.int (0 : Int32)), .val (.int (1 : Int32)), .val (.int (2 : Int32)), .val (.int (1 : Int32)), .val (.int (1 : Int32)), .val (.int (1 : Int32)), .val (.int (1 : Int32))] [])) tgt
      refine XS.iload X6.here hx rfl (hb hby d5_64) rfl ?_
      show Steps p.tables e below (T6.setTop (mkF m 66 #[.val (.ref ob), .val (.int (2 : Int32)), .val (.ref nu), .val (.ref ro), .val (.int (1 : Int32)), .val (.int (0 : Int32)), .val (.int (1 : Int32)), .val (.int (2 : Int32)), .val (.int (1 : Int32)), .val (.int (1 : Int32)), .val (.int (1 : Int32)), .val (.int (1 : Int32))] [(.int (1 : Int32))])) tgt
      refine XS.iload X6.here hx rfl (hb hby d5_66) rfl ?_
      show Steps p.tables e below (T6.setTop (mkF m 68 #[.val (.ref ob), .val (.int (2 : Int32)), .val (.ref nu), .val (.ref ro), .val (.int (1 : Int32)), .val (.int (0 : Int32)), .val (.int (1 : Int32)), .val (.int (2 : Int32)), .val (.int (1 : Int32)), .val (.int (1 : Int32)), .val (.int (1 : Int32)), .val (.int (1 : Int32))] [(.int (2 : Int32)), (.int (1 : Int32))])) tgt
      refine XS.icmpNo X6.here hx rfl (hb hby d5_68) rfl (tlt (by decide : (1 : Int32) < (2 : Int32))).2.1 ?_
      show Steps p.tables e below (T6.setTop (mkF m 71 #[.val (.ref ob), .val (.int (2 : Int32)), .val (.ref nu), .val (.ref ro), .val (.int (1 : Int32)), .val (.int (0 : Int32)), .val (.int (1 : Int32)), .val (.int (2 : Int32)), .val (.int (1 : Int32)), .val (.int (1 : Int32)), .val (.int (1 : Int32)), .val (.int (1 : Int32))] [])) tgt
      refine XS.iload X6.here hx rfl (hb hby d5_71) rfl ?_
      show Steps p.tables e below (T6.setTop (mkF m 73 #[.val (.ref ob), .val (.int (2 : Int32)), .val (.ref nu), .val (.ref ro), .val (.int (1 : Int32)), .val (.int (0 : Int32)), .val (.int (1 : Int32)), .val (.int (2 : Int32)), .val (.int (1 : Int32)), .val (.int (1 : Int32)), .val (.int (1 : Int32)), .val (.int (1 : Int32))] [(.int (1 : Int32))])) tgt
      refine XS.iload X6.here hx rfl (hb hby d5_73) rfl ?_
      show Steps p.tables e below (T6.setTop (mkF m 75 #[.val (.ref ob), .val (.int (2 : Int32)), .val (.ref nu), .val (.ref ro), .val (.int (1 : Int32)), .val (.int (0 : Int32)), .val (.int (1 : Int32)), .val (.int (2 : Int32)), .val (.int (1 : Int32)), .val (.int (1 : Int32)), .val (.int (1 : Int32)), .val (.int (1 : Int32))] [(.int (2 : Int32)), (.int (1 : Int32))])) tgt
      refine XS.icmpNo X6.here hx rfl (hb hby d5_75) rfl (feq (by decide : ¬ ((1 : Int32) = (2 : Int32)))).1 ?_
      show Steps p.tables e below (T6.setTop (mkF m 78 #[.val (.ref ob), .val (.int (2 : Int32)), .val (.ref nu), .val (.ref ro), .val (.int (1 : Int32)), .val (.int (0 : Int32)), .val (.int (1 : Int32)), .val (.int (2 : Int32)), .val (.int (1 : Int32)), .val (.int (1 : Int32)), .val (.int (1 : Int32)), .val (.int (1 : Int32))] [])) tgt
      refine XS.iload X6.here hx rfl (hb hby d5_78) rfl ?_
      show Steps p.tables e below (T6.setTop (mkF m 80 #[.val (.ref ob), .val (.int (2 : Int32)), .val (.ref nu), .val (.ref ro), .val (.int (1 : Int32)), .val (.int (0 : Int32)), .val (.int (1 : Int32)), .val (.int (2 : Int32)), .val (.int (1 : Int32)), .val (.int (1 : Int32)), .val (.int (1 : Int32)), .val (.int (1 : Int32))] [(.int (1 : Int32))])) tgt
      refine XS.iload X6.here hx rfl (hb hby d5_80) rfl ?_
      show Steps p.tables e below (T6.setTop (mkF m 82 #[.val (.ref ob), .val (.int (2 : Int32)), .val (.ref nu), .val (.ref ro), .val (.int (1 : Int32)), .val (.int (0 : Int32)), .val (.int (1 : Int32)), .val (.int (2 : Int32)), .val (.int (1 : Int32)), .val (.int (1 : Int32)), .val (.int (1 : Int32)), .val (.int (1 : Int32))] [(.int (1 : Int32)), (.int (1 : Int32))])) tgt
      refine XS.icmpYes X6.here hx rfl (pc0 := 82) (pc' := 104) rfl (hb hby d5_82) rfl (flt (by decide : ¬ ((1 : Int32) < (1 : Int32)))).2.1 (by decide) (by decide) ?_
      show Steps p.tables e below (T6.setTop (mkF m 104 #[.val (.ref ob), .val (.int (2 : Int32)), .val (.ref nu), .val (.ref ro), .val (.int (1 : Int32)), .val (.int (0 : Int32)), .val (.int (1 : Int32)), .val (.int (2 : Int32)), .val (.int (1 : Int32)), .val (.int (1 : Int32)), .val (.int (1 : Int32)), .val (.int (1 : Int32))] [])) tgt
      refine XS.iconst X6.here hx rfl (hb hby d5_104) ?_
      show Steps p.tables e below (T6.setTop (mkF m 105 #[.val (.ref ob), .val (.int (2 : Int32)), .val (.ref nu), .val (.ref ro), .val (.int (1 : Int32)), .val (.int (0 : Int32)), .val (.int (1 : Int32)), .val (.int (2 : Int32)), .val (.int (1 : Int32)), .val (.int (1 : Int32)), .val (.int (1 : Int32)), .val (.int (1 : Int32))] [(.int (0 : Int32))])) tgt
      refine XS.istore X6.here hx rfl (hb hby d5_105) rfl (l' := #[.val (.ref ob), .val (.int (2 : Int32)), .val (.ref nu), .val (.ref ro), .val (.int (1 : Int32)), .val (.int (0 : Int32)), .val (.int (1 : Int32)), .val (.int (2 : Int32)), .val (.int (1 : Int32)), .val (.int (1 : Int32)), .val (.int (1 : Int32)), .val (.int (0 : Int32))]) rfl ?_
      show Steps p.tables e below (T6.setTop (mkF m 107 #[.val (.ref ob), .val (.int (2 : Int32)), .val (.ref nu), .val (.ref ro), .val (.int (1 : Int32)), .val (.int (0 : Int32)), .val (.int (1 : Int32)), .val (.int (2 : Int32)), .val (.int (1 : Int32)), .val (.int (1 : Int32)), .val (.int (1 : Int32)), .val (.int (0 : Int32))] [])) tgt
      refine XS.aloadN X6.here hx rfl (hb hby d5_107) rfl rfl ?_
      show Steps p.tables e below (T6.setTop (mkF m 108 #[.val (.ref ob), .val (.int (2 : Int32)), .val (.ref nu), .val (.ref ro), .val (.int (1 : Int32)), .val (.int (0 : Int32)), .val (.int (1 : Int32)), .val (.int (2 : Int32)), .val (.int (1 : Int32)), .val (.int (1 : Int32)), .val (.int (1 : Int32)), .val (.int (0 : Int32))] [(.ref ro)])) tgt
      refine XS.iload X6.here hx rfl (hb hby d5_108) rfl ?_
      show Steps p.tables e below (T6.setTop (mkF m 110 #[.val (.ref ob), .val (.int (2 : Int32)), .val (.ref nu), .val (.ref ro), .val (.int (1 : Int32)), .val (.int (0 : Int32)), .val (.int (1 : Int32)), .val (.int (2 : Int32)), .val (.int (1 : Int32)), .val (.int (1 : Int32)), .val (.int (1 : Int32)), .val (.int (0 : Int32))] [(.int (1 : Int32)), (.ref ro)])) tgt
      refine XS.iload X6.here hx rfl (hb hby d5_110) rfl ?_
      show Steps p.tables e below (T6.setTop (mkF m 112 #[.val (.ref ob), .val (.int (2 : Int32)), .val (.ref nu), .val (.ref ro), .val (.int (1 : Int32)), .val (.int (0 : Int32)), .val (.int (1 : Int32)), .val (.int (2 : Int32)), .val (.int (1 : Int32)), .val (.int (1 : Int32)), .val (.int (1 : Int32)), .val (.int (0 : Int32))] [(.int (0 : Int32)), (.int (1 : Int32)), (.ref ro)])) tgt
      refine XS.ifYes X6.here hx rfl (pc0 := 112) (pc' := 125) rfl (hb hby d5_112) rfl ((if0 _ _).trans (teq (by decide : (0 : Int32) = (0 : Int32))).1) (by decide) (by decide) ?_
      show Steps p.tables e below (T6.setTop (mkF m 125 #[.val (.ref ob), .val (.int (2 : Int32)), .val (.ref nu), .val (.ref ro), .val (.int (1 : Int32)), .val (.int (0 : Int32)), .val (.int (1 : Int32)), .val (.int (2 : Int32)), .val (.int (1 : Int32)), .val (.int (1 : Int32)), .val (.int (1 : Int32)), .val (.int (0 : Int32))] [(.int (1 : Int32)), (.ref ro)])) tgt
      refine XS.aloadN X6.here hx rfl (hb hby d5_125) rfl rfl ?_
      show Steps p.tables e below (T6.setTop (mkF m 126 #[.val (.ref ob), .val (.int (2 : Int32)), .val (.ref nu), .val (.ref ro), .val (.int (1 : Int32)), .val (.int (0 : Int32)), .val (.int (1 : Int32)), .val (.int (2 : Int32)), .val (.int (1 : Int32)), .val (.int (1 : Int32)), .val (.int (1 : Int32)), .val (.int (0 : Int32))] [(.ref nu), (.int (1 : Int32)), (.ref ro)])) tgt
      refine XS.iload X6.here hx rfl (hb hby d5_126) rfl ?_
      show Steps p.tables e below (T6.setTop (mkF m 128 #[.val (.ref ob), .val (.int (2 : Int32)), .val (.ref nu), .val (.ref ro), .val (.int (1 : Int32)), .val (.int (0 : Int32)), .val (.int (1 : Int32)), .val (.int (2 : Int32)), .val (.int (1 : Int32)), .val (.int (1 : Int32)), .val (.int (1 : Int32)), .val (.int (0 : Int32))] [(.int (1 : Int32)), (.ref nu), (.int (1 : Int32)), (.ref ro)])) tgt
      refine XS.iinc X6.here hx rfl (hb hby d5_128) rfl (l' := #[.val (.ref ob), .val (.int (2 : Int32)), .val (.ref nu), .val (.ref ro), .val (.int (1 : Int32)), .val (.int (0 : Int32)), .val (.int (1 : Int32)), .val (.int (2 : Int32)), .val (.int (1 : Int32)), .val (.int ((1 : Int32) + (1 : Int32))), .val (.int (1 : Int32)), .val (.int (0 : Int32))]) rfl ?_
      exact k
    rw [show ((1 : Int32) + (1 : Int32)) = (2 : Int32) from by decide]
    refine own_st (V := T6.setTop (mkF m 132 #[.val (.ref ob), .val (.int (2 : Int32)), .val (.ref nu), .val (.ref ro), .val (.int (1 : Int32)), .val (.int (0 : Int32)), .val (.int (1 : Int32)), .val (.int (2 : Int32)), .val (.int (1 : Int32)), .val (.int (2 : Int32)), .val (.int (1 : Int32)), .val (.int (0 : Int32))] [(.int (fn 1)), (.int (1 : Int32)), (.ref ro)])) (fun tgt k => ?_) ?_
    · show Steps p.tables e below (T6.setTop (mkF m 131 #[.val (.ref ob), .val (.int (2 : Int32)), .val (.ref nu), .val (.ref ro), .val (.int (1 : Int32)), .val (.int (0 : Int32)), .val (.int (1 : Int32)), .val (.int (2 : Int32)), .val (.int (1 : Int32)), .val (.int (2 : Int32)), .val (.int (1 : Int32)), .val (.int (0 : Int32))] [(.int (1 : Int32)), (.ref nu), (.int (1 : Int32)), (.ref ro)])) tgt
      refine own_iaload X6 hx hZ e6 A_nu_6 (j := (1 : Int32)) (k := 1) rfl (by decide) (g := (mkF m 131 #[.val (.ref ob), .val (.int (2 : Int32)), .val (.ref nu), .val (.ref ro), .val (.int (1 : Int32)), .val (.int (0 : Int32)), .val (.int (1 : Int32)), .val (.int (2 : Int32)), .val (.int (1 : Int32)), .val (.int (2 : Int32)), .val (.int (1 : Int32)), .val (.int (0 : Int32))] [(.int (1 : Int32)), (.ref nu), (.int (1 : Int32)), (.ref ro)])) rfl rfl (hb hby d5_131) ?_
      exact k
    obtain ⟨T7, h7, X7, e7, W7, A_ro_7, st7⟩ := own_iastore X6 hx hZ e6 A_ro_6 (j := (1 : Int32)) (k := 1) rfl (by decide) (g := (mkF m 132 #[.val (.ref ob), .val (.int (2 : Int32)), .val (.ref nu), .val (.ref ro), .val (.int (1 : Int32)), .val (.int (0 : Int32)), .val (.int (1 : Int32)), .val (.int (2 : Int32)), .val (.int (1 : Int32)), .val (.int (2 : Int32)), .val (.int (1 : Int32)), .val (.int (0 : Int32))] [(.int (fn 1)), (.int (1 : Int32)), (.ref ro)])) rfl rfl (hb hby d5_132)
    have E_ob_7 := E_ob_6.wr W7
    have F_ob_numbers_7 := Fld.other W7 F_ob_numbers_6 (Or.inl NE5)
    have F_ob_keys_7 := Fld.other W7 F_ob_keys_6 (Or.inl NE5)
    have F_ob_room_7 := Fld.other W7 F_ob_room_6 (Or.inl NE5)
    have A_nu_7 := A_nu_6.other W7 NE2
    have A_ke_7 := A_ke_6.other W7 NE3
    have N7 := Fr.snoc X7 N6 G2
    have Zs7 : n0 ≤ h7.size := Nat.le_trans Zs6 (Keep.of_wr W7).1
    have Kp7 := Kp6.wr W7 (Or.inl (List.mem_of_getElem? (i := 1) rfl))
    refine own_st st7 ?_
    show own_Go p e below _ (T7.setTop (mkF m 133 #[.val (.ref ob), .val (.int (2 : Int32)), .val (.ref nu), .val (.ref ro), .val (.int (1 : Int32)), .val (.int (0 : Int32)), .val (.int (1 : Int32)), .val (.int (2 : Int32)), .val (.int (1 : Int32)), .val (.int (2 : Int32)), .val (.int (1 : Int32)), .val (.int (0 : Int32))] []))
    refine own_st (V := T7.setTop (mkF m 136 #[.val (.ref ob), .val (.int (2 : Int32)), .val (.ref nu), .val (.ref ro), .val (.int (1 : Int32)), .val (.int (0 : Int32)), .val (.int (1 : Int32)), .val (.int (2 : Int32)), .val (.int (1 : Int32)), .val (.int (2 : Int32)), .val (.int ((1 : Int32) + (1 : Int32))), .val (.int (0 : Int32))] [])) (fun tgt k => ?_) ?_
    · show Steps p.tables e below (T7.setTop (mkF m 133 #[.val (.ref ob), .val (.int (2 : Int32)), .val (.ref nu), .val (.ref ro), .val (.int (1 : Int32)), .val (.int (0 : Int32)), .val (.int (1 : Int32)), .val (.int (2 : Int32)), .val (.int (1 : Int32)), .val (.int (2 : Int32)), .val (.int (1 : Int32)), .val (.int (0 : Int32))] [])) tgt
      refine XS.iinc X7.here hx rfl (hb hby d5_133) rfl (l' := #[.val (.ref ob), .val (.int (2 : Int32)), .val (.ref nu), .val (.ref ro), .val (.int (1 : Int32)), .val (.int (0 : Int32)), .val (.int (1 : Int32)), .val (.int (2 : Int32)), .val (.int (1 : Int32)), .val (.int (2 : Int32)), .val (.int ((1 : Int32) + (1 : Int32))), .val (.int (0 : Int32))]) rfl ?_
      exact k
    rw [show ((1 : Int32) + (1 : Int32)) = (2 : Int32) from by decide]
    refine own_st (V := T7.setTop (mkF m 145 #[.val (.ref ob), .val (.int (2 : Int32)), .val (.ref nu), .val (.ref ro), .val (.int (1 : Int32)), .val (.int (0 : Int32)), .val (.int (1 : Int32)), .val (.int (2 : Int32)), .val (.int (1 : Int32)), .val (.int (2 : Int32)), .val (.int (2 : Int32)), .val (.int (0 : Int32))] [(.int ((2 : Int32) * (1 : Int32))), (.int (0 : Int32))])) (fun tgt k => ?_) ?_
    · show Steps p.tables e below (T7.setTop (mkF m 136 #[.val (.ref ob), .val (.int (2 : Int32)), .val (.ref nu), .val (.ref ro), .val (.int (1 : Int32)), .val (.int (0 : Int32)), .val (.int (1 : Int32)), .val (.int (2 : Int32)), .val (.int (1 : Int32)), .val (.int (2 : Int32)), .val (.int (2 : Int32)), .val (.int (0 : Int32))] [])) tgt
      refine XS.goto X7.here hx rfl (pc0 := 136) (pc' := 64) rfl (hb hby d5_136) (by decide) (by decide) ?_
      show Steps p.tables e below (T7.setTop (mkF m 64 #[.val (.ref ob), .val (.int (2 : Int32)), .val (.ref nu), .val (.ref ro), .val (.int (1 : Int32)), .val (.int (0 : Int32)), .val (.int (1 : Int32)), .val (.int (2 : Int32)), .val (.int (1 : Int32)), .val (.int (2 : Int32)), .val (.int (2 : Int32)), .val (.int (0 : Int32))] [])) tgt
      refine XS.iload X7.here hx rfl (hb hby d5_64) rfl ?_
      show Steps p.tables e below (T7.setTop (mkF m 66 #[.val (.ref ob), .val (.int (2 : Int32)), .val (.ref nu), .val (.ref ro), .val (.int (1 : Int32)), .val (.int (0 : Int32)), .val (.int (1 : Int32)), .val (.int (2 : Int32)), .val (.int (1 : Int32)), .val (.int (2 : Int32)), .val (.int (2 : Int32)), .val (.int (0 : Int32))] [(.int (2 : Int32))])) tgt
      refine XS.iload X7.here hx rfl (hb hby d5_66) rfl ?_
      show Steps p.tables e below (T7.setTop (mkF m 68 #[.val (.ref ob), .val (.int (2 : Int32)), .val (.ref nu), .val (.ref ro), .val (.int (1 : Int32)), .val (.int (0 : Int32)), .val (.int (1 : Int32)), .val (.int (2 : Int32)), .val (.int (1 : Int32)), .val (.int (2 : Int32)), .val (.int (2 : Int32)), .val (.int (0 : Int32))] [(.int (2 : Int32)), (.int (2 : Int32))])) tgt
      refine XS.icmpYes X7.here hx rfl (pc0 := 68) (pc' := 139) rfl (hb hby d5_68) rfl (flt (by decide : ¬ ((2 : Int32) < (2 : Int32)))).2.1 (by decide) (by decide) ?_
      show Steps p.tables e below (T7.setTop (mkF m 139 #[.val (.ref ob), .val (.int (2 : Int32)), .val (.ref nu), .val (.ref ro), .val (.int (1 : Int32)), .val (.int (0 : Int32)), .val (.int (1 : Int32)), .val (.int (2 : Int32)), .val (.int (1 : Int32)), .val (.int (2 : Int32)), .val (.int (2 : Int32)), .val (.int (0 : Int32))] [])) tgt
      refine XS.iload X7.here hx rfl (hb hby d5_139) rfl ?_
      show Steps p.tables e below (T7.setTop (mkF m 141 #[.val (.ref ob), .val (.int (2 : Int32)), .val (.ref nu), .val (.ref ro), .val (.int (1 : Int32)), .val (.int (0 : Int32)), .val (.int (1 : Int32)), .val (.int (2 : Int32)), .val (.int (1 : Int32)), .val (.int (2 : Int32)), .val (.int (2 : Int32)), .val (.int (0 : Int32))] [(.int (0 : Int32))])) tgt
      refine XS.iconst X7.here hx rfl (hb hby d5_141) ?_
      show Steps p.tables e below (T7.setTop (mkF m 142 #[.val (.ref ob), .val (.int (2 : Int32)), .val (.ref nu), .val (.ref ro), .val (.int (1 : Int32)), .val (.int (0 : Int32)), .val (.int (1 : Int32)), .val (.int (2 : Int32)), .val (.int (1 : Int32)), .val (.int (2 : Int32)), .val (.int (2 : Int32)), .val (.int (0 : Int32))] [(.int (2 : Int32)), (.int (0 : Int32))])) tgt
      refine XS.iload X7.here hx rfl (hb hby d5_142) rfl ?_
      show Steps p.tables e below (T7.setTop (mkF m 144 #[.val (.ref ob), .val (.int (2 : Int32)), .val (.ref nu), .val (.ref ro), .val (.int (1 : Int32)), .val (.int (0 : Int32)), .val (.int (1 : Int32)), .val (.int (2 : Int32)), .val (.int (1 : Int32)), .val (.int (2 : Int32)), .val (.int (2 : Int32)), .val (.int (0 : Int32))] [(.int (1 : Int32)), (.int (2 : Int32)), (.int (0 : Int32))])) tgt
      refine XS.imul X7.here hx rfl (hb hby d5_144) rfl ?_
      exact k
    rw [show ((2 : Int32) * (1 : Int32)) = (2 : Int32) from by decide]
    refine own_st (V := T7.setTop (mkF m 146 #[.val (.ref ob), .val (.int (2 : Int32)), .val (.ref nu), .val (.ref ro), .val (.int (1 : Int32)), .val (.int (0 : Int32)), .val (.int (1 : Int32)), .val (.int (2 : Int32)), .val (.int (1 : Int32)), .val (.int (2 : Int32)), .val (.int (2 : Int32)), .val (.int (0 : Int32))] [(.int ((0 : Int32) + (2 : Int32)))])) (fun tgt k => ?_) ?_
    · show Steps p.tables e below (T7.setTop (mkF m 145 #[.val (.ref ob), .val (.int (2 : Int32)), .val (.ref nu), .val (.ref ro), .val (.int (1 : Int32)), .val (.int (0 : Int32)), .val (.int (1 : Int32)), .val (.int (2 : Int32)), .val (.int (1 : Int32)), .val (.int (2 : Int32)), .val (.int (2 : Int32)), .val (.int (0 : Int32))] [(.int (2 : Int32)), (.int (0 : Int32))])) tgt
      refine XS.iadd X7.here hx rfl (hb hby d5_145) rfl ?_
      exact k
    rw [show ((0 : Int32) + (2 : Int32)) = (2 : Int32) from by decide]
    refine own_st (V := T7.setTop (mkF m 163 #[.val (.ref ob), .val (.int (2 : Int32)), .val (.ref ro), .val (.ref nu), .val (.int (1 : Int32)), .val (.ref ro), .val (.int (1 : Int32)), .val (.int (2 : Int32)), .val (.int (1 : Int32)), .val (.int (2 : Int32)), .val (.int (2 : Int32)), .val (.int (0 : Int32))] [(.int ((1 : Int32) * (2 : Int32)))])) (fun tgt k => ?_) ?_
    · show Steps p.tables e below (T7.setTop (mkF m 146 #[.val (.ref ob), .val (.int (2 : Int32)), .val (.ref nu), .val (.ref ro), .val (.int (1 : Int32)), .val (.int (0 : Int32)), .val (.int (1 : Int32)), .val (.int (2 : Int32)), .val (.int (1 : Int32)), .val (.int (2 : Int32)), .val (.int (2 : Int32)), .val (.int (0 : Int32))] [(.int (2 : Int32))])) tgt
      refine XS.istore X7.here hx rfl (hb hby d5_146) rfl (l' := #[.val (.ref ob), .val (.int (2 : Int32)), .val (.ref nu), .val (.ref ro), .val (.int (1 : Int32)), .val (.int (2 : Int32)), .val (.int (1 : Int32)), .val (.int (2 : Int32)), .val (.int (1 : Int32)), .val (.int (2 : Int32)), .val (.int (2 : Int32)), .val (.int (0 : Int32))]) rfl ?_
      show Steps p.tables e below (T7.setTop (mkF m 148 #[.val (.ref ob), .val (.int (2 : Int32)), .val (.ref nu), .val (.ref ro), .val (.int (1 : Int32)), .val (.int (2 : Int32)), .val (.int (1 : Int32)), .val (.int (2 : Int32)), .val (.int (1 : Int32)), .val (.int (2 : Int32)), .val (.int (2 : Int32)), .val (.int (0 : Int32))] [])) tgt
      refine XS.goto X7.here hx rfl (pc0 := 148) (pc' := 22) rfl (hb hby d5_148) (by decide) (by decide) ?_
      show Steps p.tables e below (T7.setTop (mkF m 22 #[.val (.ref ob), .val (.int (2 : Int32)), .val (.ref nu), .val (.ref ro), .val (.int (1 : Int32)), .val (.int (2 : Int32)), .val (.int (1 : Int32)), .val (.int (2 : Int32)), .val (.int (1 : Int32)), .val (.int (2 : Int32)), .val (.int (2 : Int32)), .val (.int (0 : Int32))] [])) tgt
      refine XS.iload X7.here hx rfl (hb hby d5_22) rfl ?_
      show Steps p.tables e below (T7.setTop (mkF m 24 #[.val (.ref ob), .val (.int (2 : Int32)), .val (.ref nu), .val (.ref ro), .val (.int (1 : Int32)), .val (.int (2 : Int32)), .val (.int (1 : Int32)), .val (.int (2 : Int32)), .val (.int (1 : Int32)), .val (.int (2 : Int32)), .val (.int (2 : Int32)), .val (.int (0 : Int32))] [(.int (2 : Int32))])) tgt
      refine XS.iloadN X7.here hx rfl (hb hby d5_24) rfl ?_
      show Steps p.tables e below (T7.setTop (mkF m 25 #[.val (.ref ob), .val (.int (2 : Int32)), .val (.ref nu), .val (.ref ro), .val (.int (1 : Int32)), .val (.int (2 : Int32)), .val (.int (1 : Int32)), .val (.int (2 : Int32)), .val (.int (1 : Int32)), .val (.int (2 : Int32)), .val (.int (2 : Int32)), .val (.int (0 : Int32))] [(.int (2 : Int32)), (.int (2 : Int32))])) tgt
      refine XS.icmpYes X7.here hx rfl (pc0 := 25) (pc' := 151) rfl (hb hby d5_25) rfl (flt (by decide : ¬ ((2 : Int32) < (2 : Int32)))).2.1 (by decide) (by decide) ?_
      show Steps p.tables e below (T7.setTop (mkF m 151 #[.val (.ref ob), .val (.int (2 : Int32)), .val (.ref nu), .val (.ref ro), .val (.int (1 : Int32)), .val (.int (2 : Int32)), .val (.int (1 : Int32)), .val (.int (2 : Int32)), .val (.int (1 : Int32)), .val (.int (2 : Int32)), .val (.int (2 : Int32)), .val (.int (0 : Int32))] [])) tgt
      refine XS.aloadN X7.here hx rfl (hb hby d5_151) rfl rfl ?_
      show Steps p.tables e below (T7.setTop (mkF m 152 #[.val (.ref ob), .val (.int (2 : Int32)), .val (.ref nu), .val (.ref ro), .val (.int (1 : Int32)), .val (.int (2 : Int32)), .val (.int (1 : Int32)), .val (.int (2 : Int32)), .val (.int (1 : Int32)), .val (.int (2 : Int32)), .val (.int (2 : Int32)), .val (.int (0 : Int32))] [(.ref ro)])) tgt
      refine XS.astore X7.here hx rfl (hb hby d5_152) rfl rfl (l' := #[.val (.ref ob), .val (.int (2 : Int32)), .val (.ref nu), .val (.ref ro), .val (.int (1 : Int32)), .val (.ref ro), .val (.int (1 : Int32)), .val (.int (2 : Int32)), .val (.int (1 : Int32)), .val (.int (2 : Int32)), .val (.int (2 : Int32)), .val (.int (0 : Int32))]) rfl ?_
      show Steps p.tables e below (T7.setTop (mkF m 154 #[.val (.ref ob), .val (.int (2 : Int32)), .val (.ref nu), .val (.ref ro), .val (.int (1 : Int32)), .val (.ref ro), .val (.int (1 : Int32)), .val (.int (2 : Int32)), .val (.int (1 : Int32)), .val (.int (2 : Int32)), .val (.int (2 : Int32)), .val (.int (0 : Int32))] [])) tgt
      refine XS.aloadN X7.here hx rfl (hb hby d5_154) rfl rfl ?_
      show Steps p.tables e below (T7.setTop (mkF m 155 #[.val (.ref ob), .val (.int (2 : Int32)), .val (.ref nu), .val (.ref ro), .val (.int (1 : Int32)), .val (.ref ro), .val (.int (1 : Int32)), .val (.int (2 : Int32)), .val (.int (1 : Int32)), .val (.int (2 : Int32)), .val (.int (2 : Int32)), .val (.int (0 : Int32))] [(.ref nu)])) tgt
      refine XS.astoreN X7.here hx rfl (hb hby d5_155) rfl rfl (l' := #[.val (.ref ob), .val (.int (2 : Int32)), .val (.ref nu), .val (.ref nu), .val (.int (1 : Int32)), .val (.ref ro), .val (.int (1 : Int32)), .val (.int (2 : Int32)), .val (.int (1 : Int32)), .val (.int (2 : Int32)), .val (.int (2 : Int32)), .val (.int (0 : Int32))]) rfl ?_
      show Steps p.tables e below (T7.setTop (mkF m 156 #[.val (.ref ob), .val (.int (2 : Int32)), .val (.ref nu), .val (.ref nu), .val (.int (1 : Int32)), .val (.ref ro), .val (.int (1 : Int32)), .val (.int (2 : Int32)), .val (.int (1 : Int32)), .val (.int (2 : Int32)), .val (.int (2 : Int32)), .val (.int (0 : Int32))] [])) tgt
      refine XS.aload X7.here hx rfl (hb hby d5_156) rfl rfl ?_
      show Steps p.tables e below (T7.setTop (mkF m 158 #[.val (.ref ob), .val (.int (2 : Int32)), .val (.ref nu), .val (.ref nu), .val (.int (1 : Int32)), .val (.ref ro), .val (.int (1 : Int32)), .val (.int (2 : Int32)), .val (.int (1 : Int32)), .val (.int (2 : Int32)), .val (.int (2 : Int32)), .val (.int (0 : Int32))] [(.ref ro)])) tgt
      refine XS.astoreN X7.here hx rfl (hb hby d5_158) rfl rfl (l' := #[.val (.ref ob), .val (.int (2 : Int32)), .val (.ref ro), .val (.ref nu), .val (.int (1 : Int32)), .val (.ref ro), .val (.int (1 : Int32)), .val (.int (2 : Int32)), .val (.int (1 : Int32)), .val (.int (2 : Int32)), .val (.int (2 : Int32)), .val (.int (0 : Int32))]) rfl ?_
      show Steps p.tables e below (T7.setTop (mkF m 159 #[.val (.ref ob), .val (.int (2 : Int32)), .val (.ref ro), .val (.ref nu), .val (.int (1 : Int32)), .val (.ref ro), .val (.int (1 : Int32)), .val (.int (2 : Int32)), .val (.int (1 : Int32)), .val (.int (2 : Int32)), .val (.int (2 : Int32)), .val (.int (0 : Int32))] [])) tgt
      refine XS.iload X7.here hx rfl (hb hby d5_159) rfl ?_
      show Steps p.tables e below (T7.setTop (mkF m 161 #[.val (.ref ob), .val (.int (2 : Int32)), .val (.ref ro), .val (.ref nu), .val (.int (1 : Int32)), .val (.ref ro), .val (.int (1 : Int32)), .val (.int (2 : Int32)), .val (.int (1 : Int32)), .val (.int (2 : Int32)), .val (.int (2 : Int32)), .val (.int (0 : Int32))] [(.int (1 : Int32))])) tgt
      refine XS.iconst X7.here hx rfl (hb hby d5_161) ?_
      show Steps p.tables e below (T7.setTop (mkF m 162 #[.val (.ref ob), .val (.int (2 : Int32)), .val (.ref ro), .val (.ref nu), .val (.int (1 : Int32)), .val (.ref ro), .val (.int (1 : Int32)), .val (.int (2 : Int32)), .val (.int (1 : Int32)), .val (.int (2 : Int32)), .val (.int (2 : Int32)), .val (.int (0 : Int32))] [(.int (2 : Int32)), (.int (1 : Int32))])) tgt
      refine XS.imul X7.here hx rfl (hb hby d5_162) rfl ?_
      exact k
    rw [show ((1 : Int32) * (2 : Int32)) = (2 : Int32) from by decide]
    refine own_st (V := T7.setTop (mkF m 170 #[.val (.ref ob), .val (.int (2 : Int32)), .val (.ref ro), .val (.ref nu), .val (.int (2 : Int32)), .val (.ref ro), .val (.int (1 : Int32)), .val (.int (2 : Int32)), .val (.int (1 : Int32)), .val (.int (2 : Int32)), .val (.int (2 : Int32)), .val (.int (0 : Int32))] [(.ref ob), (.ref ro)])) (fun tgt k => ?_) ?_
    · show Steps p.tables e below (T7.setTop (mkF m 163 #[.val (.ref ob), .val (.int (2 : Int32)), .val (.ref ro), .val (.ref nu), .val (.int (1 : Int32)), .val (.ref ro), .val (.int (1 : Int32)), .val (.int (2 : Int32)), .val (.int (1 : Int32)), .val (.int (2 : Int32)), .val (.int (2 : Int32)), .val (.int (0 : Int32))] [(.int (2 : Int32))])) tgt
      refine XS.istore X7.here hx rfl (hb hby d5_163) rfl (l' := #[.val (.ref ob), .val (.int (2 : Int32)), .val (.ref ro), .val (.ref nu), .val (.int (2 : Int32)), .val (.ref ro), .val (.int (1 : Int32)), .val (.int (2 : Int32)), .val (.int (1 : Int32)), .val (.int (2 : Int32)), .val (.int (2 : Int32)), .val (.int (0 : Int32))]) rfl ?_
      show Steps p.tables e below (T7.setTop (mkF m 165 #[.val (.ref ob), .val (.int (2 : Int32)), .val (.ref ro), .val (.ref nu), .val (.int (2 : Int32)), .val (.ref ro), .val (.int (1 : Int32)), .val (.int (2 : Int32)), .val (.int (1 : Int32)), .val (.int (2 : Int32)), .val (.int (2 : Int32)), .val (.int (0 : Int32))] [])) tgt
      refine XS.goto X7.here hx rfl (pc0 := 165) (pc' := 13) rfl (hb hby d5_165) (by decide) (by decide) ?_
      show Steps p.tables e below (T7.setTop (mkF m 13 #[.val (.ref ob), .val (.int (2 : Int32)), .val (.ref ro), .val (.ref nu), .val (.int (2 : Int32)), .val (.ref ro), .val (.int (1 : Int32)), .val (.int (2 : Int32)), .val (.int (1 : Int32)), .val (.int (2 : Int32)), .val (.int (2 : Int32)), .val (.int (0 : Int32))] [])) tgt
      refine XS.iload X7.here hx rfl (hb hby d5_13) rfl ?_
      show Steps p.tables e below (T7.setTop (mkF m 15 #[.val (.ref ob), .val (.int (2 : Int32)), .val (.ref ro), .val (.ref nu), .val (.int (2 : Int32)), .val (.ref ro), .val (.int (1 : Int32)), .val (.int (2 : Int32)), .val (.int (1 : Int32)), .val (.int (2 : Int32)), .val (.int (2 : Int32)), .val (.int (0 : Int32))] [(.int (2 : Int32))])) tgt
      refine XS.iloadN X7.here hx rfl (hb hby d5_15) rfl ?_
      show Steps p.tables e below (T7.setTop (mkF m 16 #[.val (.ref ob), .val (.int (2 : Int32)), .val (.ref ro), .val (.ref nu), .val (.int (2 : Int32)), .val (.ref ro), .val (.int (1 : Int32)), .val (.int (2 : Int32)), .val (.int (1 : Int32)), .val (.int (2 : Int32)), .val (.int (2 : Int32)), .val (.int (0 : Int32))] [(.int (2 : Int32)), (.int (2 : Int32))])) tgt
      refine XS.icmpYes X7.here hx rfl (pc0 := 16) (pc' := 168) rfl (hb hby d5_16) rfl (flt (by decide : ¬ ((2 : Int32) < (2 : Int32)))).2.1 (by decide) (by decide) ?_
      show Steps p.tables e below (T7.setTop (mkF m 168 #[.val (.ref ob), .val (.int (2 : Int32)), .val (.ref ro), .val (.ref nu), .val (.int (2 : Int32)), .val (.ref ro), .val (.int (1 : Int32)), .val (.int (2 : Int32)), .val (.int (1 : Int32)), .val (.int (2 : Int32)), .val (.int (2 : Int32)), .val (.int (0 : Int32))] [])) tgt
      refine XS.aloadN X7.here hx rfl (hb hby d5_168) rfl rfl ?_
      show Steps p.tables e below (T7.setTop (mkF m 169 #[.val (.ref ob), .val (.int (2 : Int32)), .val (.ref ro), .val (.ref nu), .val (.int (2 : Int32)), .val (.ref ro), .val (.int (1 : Int32)), .val (.int (2 : Int32)), .val (.int (1 : Int32)), .val (.int (2 : Int32)), .val (.int (2 : Int32)), .val (.int (0 : Int32))] [(.ref ro)])) tgt
      refine XS.aloadN X7.here hx rfl (hb hby d5_169) rfl rfl ?_
      exact k
    obtain ⟨T8, X8, e8, st8⟩ := getF X7 hx hZ hown (host := "") (Or.inl (hw _ (List.mem_of_getElem? (i := 10) rfl))) Via.refl e7 F_ob_numbers_7 (g := (mkF m 170 #[.val (.ref ob), .val (.int (2 : Int32)), .val (.ref ro), .val (.ref nu), .val (.int (2 : Int32)), .val (.ref ro), .val (.int (1 : Int32)), .val (.int (2 : Int32)), .val (.int (1 : Int32)), .val (.int (2 : Int32)), .val (.int (2 : Int32)), .val (.int (0 : Int32))] [(.ref ob), (.ref ro)])) rfl rfl (hb hby d5_170)
    refine own_st st8 ?_
    show own_Go p e below _ (T8.setTop (mkF m 173 #[.val (.ref ob), .val (.int (2 : Int32)), .val (.ref ro), .val (.ref nu), .val (.int (2 : Int32)), .val (.ref ro), .val (.int (1 : Int32)), .val (.int (2 : Int32)), .val (.int (1 : Int32)), .val (.int (2 : Int32)), .val (.int (2 : Int32)), .val (.int (0 : Int32))] [(.ref nu), (.ref ro)]))
    refine own_st (fun tgt k => Jvm.RoadKit.acmp (g := (mkF m 173 #[.val (.ref ob), .val (.int (2 : Int32)), .val (.ref ro), .val (.ref nu), .val (.int (2 : Int32)), .val (.ref ro), .val (.int (1 : Int32)), .val (.int (2 : Int32)), .val (.int (1 : Int32)), .val (.int (2 : Int32)), .val (.int (2 : Int32)), .val (.int (0 : Int32))] [(.ref nu), (.ref ro)])) X8 hx rfl rfl rfl (pc0 := 173) (pc' := 176) (same := false) rfl (hb hby d5_173) rfl (decide_eq_false fun q => (Ne.symm NE2) (Value.ref.inj q)) (by decide) (by decide) k) ?_
    show own_Go p e below _ (T8.setTop (mkF m 176 #[.val (.ref ob), .val (.int (2 : Int32)), .val (.ref ro), .val (.ref nu), .val (.int (2 : Int32)), .val (.ref ro), .val (.int (1 : Int32)), .val (.int (2 : Int32)), .val (.int (1 : Int32)), .val (.int (2 : Int32)), .val (.int (2 : Int32)), .val (.int (0 : Int32))] []))
    refine own_st (V := T8.setTop (mkF m 179 #[.val (.ref ob), .val (.int (2 : Int32)), .val (.ref ro), .val (.ref nu), .val (.int (2 : Int32)), .val (.ref ro), .val (.int (1 : Int32)), .val (.int (2 : Int32)), .val (.int (1 : Int32)), .val (.int (2 : Int32)), .val (.int (2 : Int32)), .val (.int (0 : Int32))] [(.ref ob), (.int (0 : Int32)), (.ref ro)])) (fun tgt k => ?_) ?_
    · show Steps p.tables e below (T8.setTop (mkF m 176 #[.val (.ref ob), .val (.int (2 : Int32)), .val (.ref ro), .val (.ref nu), .val (.int (2 : Int32)), .val (.ref ro), .val (.int (1 : Int32)), .val (.int (2 : Int32)), .val (.int (1 : Int32)), .val (.int (2 : Int32)), .val (.int (2 : Int32)), .val (.int (0 : Int32))] [])) tgt
      refine XS.aloadN X8.here hx rfl (hb hby d5_176) rfl rfl ?_
      show Steps p.tables e below (T8.setTop (mkF m 177 #[.val (.ref ob), .val (.int (2 : Int32)), .val (.ref ro), .val (.ref nu), .val (.int (2 : Int32)), .val (.ref ro), .val (.int (1 : Int32)), .val (.int (2 : Int32)), .val (.int (1 : Int32)), .val (.int (2 : Int32)), .val (.int (2 : Int32)), .val (.int (0 : Int32))] [(.ref ro)])) tgt
      refine XS.iconst X8.here hx rfl (hb hby d5_177) ?_
      show Steps p.tables e below (T8.setTop (mkF m 178 #[.val (.ref ob), .val (.int (2 : Int32)), .val (.ref ro), .val (.ref nu), .val (.int (2 : Int32)), .val (.ref ro), .val (.int (1 : Int32)), .val (.int (2 : Int32)), .val (.int (1 : Int32)), .val (.int (2 : Int32)), .val (.int (2 : Int32)), .val (.int (0 : Int32))] [(.int (0 : Int32)), (.ref ro)])) tgt
      refine XS.aloadN X8.here hx rfl (hb hby d5_178) rfl rfl ?_
      exact k
    obtain ⟨T9, X9, e9, st9⟩ := getF X8 hx hZ hown (host := "") (Or.inl (hw _ (List.mem_of_getElem? (i := 10) rfl))) Via.refl e8 F_ob_numbers_7 (g := (mkF m 179 #[.val (.ref ob), .val (.int (2 : Int32)), .val (.ref ro), .val (.ref nu), .val (.int (2 : Int32)), .val (.ref ro), .val (.int (1 : Int32)), .val (.int (2 : Int32)), .val (.int (1 : Int32)), .val (.int (2 : Int32)), .val (.int (2 : Int32)), .val (.int (0 : Int32))] [(.ref ob), (.int (0 : Int32)), (.ref ro)])) rfl rfl (hb hby d5_179)
    refine own_st st9 ?_
    show own_Go p e below _ (T9.setTop (mkF m 182 #[.val (.ref ob), .val (.int (2 : Int32)), .val (.ref ro), .val (.ref nu), .val (.int (2 : Int32)), .val (.ref ro), .val (.int (1 : Int32)), .val (.int (2 : Int32)), .val (.int (1 : Int32)), .val (.int (2 : Int32)), .val (.int (2 : Int32)), .val (.int (0 : Int32))] [(.ref nu), (.int (0 : Int32)), (.ref ro)]))
    refine own_st (V := T9.setTop (mkF m 184 #[.val (.ref ob), .val (.int (2 : Int32)), .val (.ref ro), .val (.ref nu), .val (.int (2 : Int32)), .val (.ref ro), .val (.int (1 : Int32)), .val (.int (2 : Int32)), .val (.int (1 : Int32)), .val (.int (2 : Int32)), .val (.int (2 : Int32)), .val (.int (0 : Int32))] [(.int (2 : Int32)), (.int (0 : Int32)), (.ref nu), (.int (0 : Int32)), (.ref ro)])) (fun tgt k => ?_) ?_
    · show Steps p.tables e below (T9.setTop (mkF m 182 #[.val (.ref ob), .val (.int (2 : Int32)), .val (.ref ro), .val (.ref nu), .val (.int (2 : Int32)), .val (.ref ro), .val (.int (1 : Int32)), .val (.int (2 : Int32)), .val (.int (1 : Int32)), .val (.int (2 : Int32)), .val (.int (2 : Int32)), .val (.int (0 : Int32))] [(.ref nu), (.int (0 : Int32)), (.ref ro)])) tgt
      refine XS.iconst X9.here hx rfl (hb hby d5_182) ?_
      show Steps p.tables e below (T9.setTop (mkF m 183 #[.val (.ref ob), .val (.int (2 : Int32)), .val (.ref ro), .val (.ref nu), .val (.int (2 : Int32)), .val (.ref ro), .val (.int (1 : Int32)), .val (.int (2 : Int32)), .val (.int (1 : Int32)), .val (.int (2 : Int32)), .val (.int (2 : Int32)), .val (.int (0 : Int32))] [(.int (0 : Int32)), (.ref nu), (.int (0 : Int32)), (.ref ro)])) tgt
      refine XS.iloadN X9.here hx rfl (hb hby d5_183) rfl ?_
      exact k
    obtain ⟨T10, h10, L10, X10, e10, N10, K10, A_nu_10, st10⟩ := own_acopy X9 hx hZ hown (hw _ (List.mem_of_getElem? (i := 40) rfl)) (hw _ (List.mem_of_getElem? (i := 43) rfl)) (hw _ (List.mem_of_getElem? (i := 41) rfl)) (hw _ (List.mem_of_getElem? (i := 42) rfl)) e9 A_ro_7 A_nu_7 (nn := (2 : Int32)) (by decide) N7 G1 (g := (mkF m 184 #[.val (.ref ob), .val (.int (2 : Int32)), .val (.ref ro), .val (.ref nu), .val (.int (2 : Int32)), .val (.ref ro), .val (.int (1 : Int32)), .val (.int (2 : Int32)), .val (.int (1 : Int32)), .val (.int (2 : Int32)), .val (.int (2 : Int32)), .val (.int (0 : Int32))] [(.int (2 : Int32)), (.int (0 : Int32)), (.ref nu), (.int (0 : Int32)), (.ref ro)])) rfl (by rw [hml]; rfl) rfl (hb hby d5_184) (by decide) (W := 0) (by show 2 * 0 + _ ≤ _; exact Nat.le_of_eq rfl) (by decide)
    have E_ob_10 := E_ob_7.keep K10
    have F_ob_numbers_10 := F_ob_numbers_7.keep K10 (ninS NE4 nin0)
    have F_ob_keys_10 := F_ob_keys_7.keep K10 (ninS NE4 nin0)
    have F_ob_room_10 := F_ob_room_7.keep K10 (ninS NE4 nin0)
    have A_ke_10 := A_ke_7.keep K10 (ninS (Ne.symm NE1) nin0)
    have A_ro_10 := A_ro_7.keep K10 (ninS (Ne.symm NE2) nin0)
    have Zs10 : n0 ≤ h10.size := Nat.le_trans Zs7 K10.1
    have Kp10 := Kp7.trans K10 (fun x hx => by cases List.mem_singleton.mp hx; exact Or.inl (by simp))
    refine own_st st10 ?_
    show own_Go p e below _ (T10.setTop (mkF m 187 #[.val (.ref ob), .val (.int (2 : Int32)), .val (.ref ro), .val (.ref nu), .val (.int (2 : Int32)), .val (.ref ro), .val (.int (1 : Int32)), .val (.int (2 : Int32)), .val (.int (1 : Int32)), .val (.int (2 : Int32)), .val (.int (2 : Int32)), .val (.int (0 : Int32))] []))
    refine own_ret0 X10 hx hlk Bd.returns (hb hby d5_187) ?_ (by decide) (by decide)
    show Q5 Z ob xn nu ke ro fn fk fr k0 k1 h0 n0 none T10.heap _
    rw [e10]
    exact ⟨rfl, N10, Kp10, (by rw [if_pos hc97]; exact A_nu_10)⟩
  · skip
    refine own_st (V := T5.setTop (mkF m 131 #[.val (.ref ob), .val (.int (2 : Int32)), .val (.ref nu), .val (.ref ro), .val (.int (1 : Int32)), .val (.int (0 : Int32)), .val (.int (1 : Int32)), .val (.int (2 : Int32)), .val (.int (0 : Int32)), .val (.int ((1 : Int32) + (1 : Int32))), .val (.int (0 : Int32)), .val (.int (0 : Int32))] [(.int (1 : Int32)), (.ref nu), (.int (0 : Int32)), (.ref ro)])) (fun tgt k => ?_) ?_
    · show Steps p.tables e below (T5.setTop (mkF m 97 #[.val (.ref ob), .val (.int (2 : Int32)), .val (.ref nu), .val (.ref ro), .val (.int (1 : Int32)), .val (.int (0 : Int32)), .val (.int (1 : Int32)), .val (.int (2 : Int32)), .val (.int (0 : Int32)), .val (.int (1 : Int32)), .val (.int (0 : Int32)), .unset] [(.int (own_bf fk (fn 1) (fn 0) k1 k0))])) tgt
      refine XS.ifYes X5.here hx rfl (pc0 := 97) (pc' := 104) rfl (hb hby d5_97) rfl ((if0 _ _).trans (feq hc97).2) (by decide) (by decide) ?_
      show Steps p.tables e below (T5.setTop (mkF m 104 #[.val (.ref ob), .val (.int (2 : Int32)), .val (.ref nu), .val (.ref ro), .val (.int (1 : Int32)), .val (.int (0 : Int32)), .val (.int (1 : Int32)), .val (.int (2 : Int32)), .val (.int (0 : Int32)), .val (.int (1 : Int32)), .val (.int (0 : Int32)), .unset] [])) tgt
      refine XS.iconst X5.here hx rfl (hb hby d5_104) ?_
      show Steps p.tables e below (T5.setTop (mkF m 105 #[.val (.ref ob), .val (.int (2 : Int32)), .val (.ref nu), .val (.ref ro), .val (.int (1 : Int32)), .val (.int (0 : Int32)), .val (.int (1 : Int32)), .val (.int (2 : Int32)), .val (.int (0 : Int32)), .val (.int (1 : Int32)), .val (.int (0 : Int32)), .unset] [(.int (0 : Int32))])) tgt
      refine XS.istore X5.here hx rfl (hb hby d5_105) rfl (l' := #[.val (.ref ob), .val (.int (2 : Int32)), .val (.ref nu), .val (.ref ro), .val (.int (1 : Int32)), .val (.int (0 : Int32)), .val (.int (1 : Int32)), .val (.int (2 : Int32)), .val (.int (0 : Int32)), .val (.int (1 : Int32)), .val (.int (0 : Int32)), .val (.int (0 : Int32))]) rfl ?_
      show Steps p.tables e below (T5.setTop (mkF m 107 #[.val (.ref ob), .val (.int (2 : Int32)), .val (.ref nu), .val (.ref ro), .val (.int (1 : Int32)), .val (.int (0 : Int32)), .val (.int (1 : Int32)), .val (.int (2 : Int32)), .val (.int (0 : Int32)), .val (.int (1 : Int32)), .val (.int (0 : Int32)), .val (.int (0 : Int32))] [])) tgt
      refine XS.aloadN X5.here hx rfl (hb hby d5_107) rfl rfl ?_
      show Steps p.tables e below (T5.setTop (mkF m 108 #[.val (.ref ob), .val (.int (2 : Int32)), .val (.ref nu), .val (.ref ro), .val (.int (1 : Int32)), .val (.int (0 : Int32)), .val (.int (1 : Int32)), .val (.int (2 : Int32)), .val (.int (0 : Int32)), .val (.int (1 : Int32)), .val (.int (0 : Int32)), .val (.int (0 : Int32))] [(.ref ro)])) tgt
      refine XS.iload X5.here hx rfl (hb hby d5_108) rfl ?_
      show Steps p.tables e below (T5.setTop (mkF m 110 #[.val (.ref ob), .val (.int (2 : Int32)), .val (.ref nu), .val (.ref ro), .val (.int (1 : Int32)), .val (.int (0 : Int32)), .val (.int (1 : Int32)), .val (.int (2 : Int32)), .val (.int (0 : Int32)), .val (.int (1 : Int32)), .val (.int (0 : Int32)), .val (.int (0 : Int32))] [(.int (0 : Int32)), (.ref ro)])) tgt
      refine XS.iload X5.here hx rfl (hb hby d5_110) rfl ?_
      show Steps p.tables e below (T5.setTop (mkF m 112 #[.val (.ref ob), .val (.int (2 : Int32)), .val (.ref nu), .val (.ref ro), .val (.int (1 : Int32)), .val (.int (0 : Int32)), .val (.int (1 : Int32)), .val (.int (2 : Int32)), .val (.int (0 : Int32)), .val (.int (1 : Int32)), .val (.int (0 : Int32)), .val (.int (0 : Int32))] [(.int (0 : Int32)), (.int (0 : Int32)), (.ref ro)])) tgt
      refine XS.ifYes X5.here hx rfl (pc0 := 112) (pc' := 125) rfl (hb hby d5_112) rfl ((if0 _ _).trans (teq (by decide : (0 : Int32) = (0 : Int32))).1) (by decide) (by decide) ?_
      show Steps p.tables e below (T5.setTop (mkF m 125 #[.val (.ref ob), .val (.int (2 : Int32)), .val (.ref nu), .val (.ref ro), .val (.int (1 : Int32)), .val (.int (0 : Int32)), .val (.int (1 : Int32)), .val (.int (2 : Int32)), .val (.int (0 : Int32)), .val (.int (1 : Int32)), .val (.int (0 : Int32)), .val (.int (0 : Int32))] [(.int (0 : Int32)), (.ref ro)])) tgt
      refine XS.aloadN X5.here hx rfl (hb hby d5_125) rfl rfl ?_
      show Steps p.tables e below (T5.setTop (mkF m 126 #[.val (.ref ob), .val (.int (2 : Int32)), .val (.ref nu), .val (.ref ro), .val (.int (1 : Int32)), .val (.int (0 : Int32)), .val (.int (1 : Int32)), .val (.int (2 : Int32)), .val (.int (0 : Int32)), .val (.int (1 : Int32)), .val (.int (0 : Int32)), .val (.int (0 : Int32))] [(.ref nu), (.int (0 : Int32)), (.ref ro)])) tgt
      refine XS.iload X5.here hx rfl (hb hby d5_126) rfl ?_
      show Steps p.tables e below (T5.setTop (mkF m 128 #[.val (.ref ob), .val (.int (2 : Int32)), .val (.ref nu), .val (.ref ro), .val (.int (1 : Int32)), .val (.int (0 : Int32)), .val (.int (1 : Int32)), .val (.int (2 : Int32)), .val (.int (0 : Int32)), .val (.int (1 : Int32)), .val (.int (0 : Int32)), .val (.int (0 : Int32))] [(.int (1 : Int32)), (.ref nu), (.int (0 : Int32)), (.ref ro)])) tgt
      refine XS.iinc X5.here hx rfl (hb hby d5_128) rfl (l' := #[.val (.ref ob), .val (.int (2 : Int32)), .val (.ref nu), .val (.ref ro), .val (.int (1 : Int32)), .val (.int (0 : Int32)), .val (.int (1 : Int32)), .val (.int (2 : Int32)), .val (.int (0 : Int32)), .val (.int ((1 : Int32) + (1 : Int32))), .val (.int (0 : Int32)), .val (.int (0 : Int32))]) rfl ?_
      exact k
    rw [show ((1 : Int32) + (1 : Int32)) = (2 : Int32) from by decide]
    refine own_st (V := T5.setTop (mkF m 132 #[.val (.ref ob), .val (.int (2 : Int32)), .val (.ref nu), .val (.ref ro), .val (.int (1 : Int32)), .val (.int (0 : Int32)), .val (.int (1 : Int32)), .val (.int (2 : Int32)), .val (.int (0 : Int32)), .val (.int (2 : Int32)), .val (.int (0 : Int32)), .val (.int (0 : Int32))] [(.int (fn 1)), (.int (0 : Int32)), (.ref ro)])) (fun tgt k => ?_) ?_
    · show Steps p.tables e below (T5.setTop (mkF m 131 #[.val (.ref ob), .val (.int (2 : Int32)), .val (.ref nu), .val (.ref ro), .val (.int (1 : Int32)), .val (.int (0 : Int32)), .val (.int (1 : Int32)), .val (.int (2 : Int32)), .val (.int (0 : Int32)), .val (.int (2 : Int32)), .val (.int (0 : Int32)), .val (.int (0 : Int32))] [(.int (1 : Int32)), (.ref nu), (.int (0 : Int32)), (.ref ro)])) tgt
      refine own_iaload X5 hx hZ K5 A1 (j := (1 : Int32)) (k := 1) rfl (by decide) (g := (mkF m 131 #[.val (.ref ob), .val (.int (2 : Int32)), .val (.ref nu), .val (.ref ro), .val (.int (1 : Int32)), .val (.int (0 : Int32)), .val (.int (1 : Int32)), .val (.int (2 : Int32)), .val (.int (0 : Int32)), .val (.int (2 : Int32)), .val (.int (0 : Int32)), .val (.int (0 : Int32))] [(.int (1 : Int32)), (.ref nu), (.int (0 : Int32)), (.ref ro)])) rfl rfl (hb hby d5_131) ?_
      exact k
    obtain ⟨T12, h12, X12, e12, W12, A_ro_12, st12⟩ := own_iastore X5 hx hZ K5 A3 (j := (0 : Int32)) (k := 0) rfl (by decide) (g := (mkF m 132 #[.val (.ref ob), .val (.int (2 : Int32)), .val (.ref nu), .val (.ref ro), .val (.int (1 : Int32)), .val (.int (0 : Int32)), .val (.int (1 : Int32)), .val (.int (2 : Int32)), .val (.int (0 : Int32)), .val (.int (2 : Int32)), .val (.int (0 : Int32)), .val (.int (0 : Int32))] [(.int (fn 1)), (.int (0 : Int32)), (.ref ro)])) rfl rfl (hb hby d5_132)
    have E_ob_12 := E1.wr W12
    have F_ob_numbers_12 := Fld.other W12 F1 (Or.inl NE5)
    have F_ob_keys_12 := Fld.other W12 F2 (Or.inl NE5)
    have F_ob_room_12 := Fld.other W12 F3 (Or.inl NE5)
    have A_nu_12 := A1.other W12 NE2
    have A_ke_12 := A2.other W12 NE3
    have N12 := Fr.snoc X12 N5 G2
    have Zs12 : n0 ≤ h12.size := Nat.le_trans Z0 (Keep.of_wr W12).1
    have Kp12 := K0.wr W12 (Or.inl (List.mem_of_getElem? (i := 1) rfl))
    refine own_st st12 ?_
    show own_Go p e below _ (T12.setTop (mkF m 133 #[.val (.ref ob), .val (.int (2 : Int32)), .val (.ref nu), .val (.ref ro), .val (.int (1 : Int32)), .val (.int (0 : Int32)), .val (.int (1 : Int32)), .val (.int (2 : Int32)), .val (.int (0 : Int32)), .val (.int (2 : Int32)), .val (.int (0 : Int32)), .val (.int (0 : Int32))] []))
    refine own_st (V := T12.setTop (mkF m 136 #[.val (.ref ob), .val (.int (2 : Int32)), .val (.ref nu), .val (.ref ro), .val (.int (1 : Int32)), .val (.int (0 : Int32)), .val (.int (1 : Int32)), .val (.int (2 : Int32)), .val (.int (0 : Int32)), .val (.int (2 : Int32)), .val (.int ((0 : Int32) + (1 : Int32))), .val (.int (0 : Int32))] [])) (fun tgt k => ?_) ?_
    · show Steps p.tables e below (T12.setTop (mkF m 133 #[.val (.ref ob), .val (.int (2 : Int32)), .val (.ref nu), .val (.ref ro), .val (.int (1 : Int32)), .val (.int (0 : Int32)), .val (.int (1 : Int32)), .val (.int (2 : Int32)), .val (.int (0 : Int32)), .val (.int (2 : Int32)), .val (.int (0 : Int32)), .val (.int (0 : Int32))] [])) tgt
      refine XS.iinc X12.here hx rfl (hb hby d5_133) rfl (l' := #[.val (.ref ob), .val (.int (2 : Int32)), .val (.ref nu), .val (.ref ro), .val (.int (1 : Int32)), .val (.int (0 : Int32)), .val (.int (1 : Int32)), .val (.int (2 : Int32)), .val (.int (0 : Int32)), .val (.int (2 : Int32)), .val (.int ((0 : Int32) + (1 : Int32))), .val (.int (0 : Int32))]) rfl ?_
      exact k
    rw [show ((0 : Int32) + (1 : Int32)) = (1 : Int32) from by decide]
    refine own_st (V := T12.setTop (mkF m 121 #[.val (.ref ob), .val (.int (2 : Int32)), .val (.ref nu), .val (.ref ro), .val (.int (1 : Int32)), .val (.int (0 : Int32)), .val (.int (1 : Int32)), .val (.int (2 : Int32)), .val (.int ((0 : Int32) + (1 : Int32))), .val (.int (2 : Int32)), .val (.int (1 : Int32)), .val (.int (1 : Int32))] [(.int (0 : Int32)), (.ref nu), (.int (1 : Int32)), (.ref ro)])) (fun tgt k => ?_) ?_
    · show Steps p.tables e below (T12.setTop (mkF m 136 #[.val (.ref ob), .val (.int (2 : Int32)), .val (.ref nu), .val (.ref ro), .val (.int (1 : Int32)), .val (.int (0 : Int32)), .val (.int (1 : Int32)), .val (.int (2 : Int32)), .val (.int (0 : Int32)), .val (.int (2 : Int32)), .val (.int (1 : Int32)), .val (.int (0 : Int32))] [])) tgt
      refine XS.goto X12.here hx rfl (pc0 := 136) (pc' := 64) rfl (hb hby d5_136) (by decide) (by decide) ?_
      show Steps p.tables e below (T12.setTop (mkF m 64 #[.val (.ref ob), .val (.int (2 : Int32)), .val (.ref nu), .val (.ref ro), .val (.int (1 : Int32)), .val (.int (0 : Int32)), .val (.int (1 : Int32)), .val (.int (2 : Int32)), .val (.int (0 : Int32)), .val (.int (2 : Int32)), .val (.int (1 : Int32)), .val (.int (0 : Int32))] [])) tgt
      refine XS.iload X12.here hx rfl (hb hby d5_64) rfl ?_
      show Steps p.tables e below (T12.setTop (mkF m 66 #[.val (.ref ob), .val (.int (2 : Int32)), .val (.ref nu), .val (.ref ro), .val (.int (1 : Int32)), .val (.int (0 : Int32)), .val (.int (1 : Int32)), .val (.int (2 : Int32)), .val (.int (0 : Int32)), .val (.int (2 : Int32)), .val (.int (1 : Int32)), .val (.int (0 : Int32))] [(.int (1 : Int32))])) tgt
      refine XS.iload X12.here hx rfl (hb hby d5_66) rfl ?_
      show Steps p.tables e below (T12.setTop (mkF m 68 #[.val (.ref ob), .val (.int (2 : Int32)), .val (.ref nu), .val (.ref ro), .val (.int (1 : Int32)), .val (.int (0 : Int32)), .val (.int (1 : Int32)), .val (.int (2 : Int32)), .val (.int (0 : Int32)), .val (.int (2 : Int32)), .val (.int (1 : Int32)), .val (.int (0 : Int32))] [(.int (2 : Int32)), (.int (1 : Int32))])) tgt
      refine XS.icmpNo X12.here hx rfl (hb hby d5_68) rfl (tlt (by decide : (1 : Int32) < (2 : Int32))).2.1 ?_
      show Steps p.tables e below (T12.setTop (mkF m 71 #[.val (.ref ob), .val (.int (2 : Int32)), .val (.ref nu), .val (.ref ro), .val (.int (1 : Int32)), .val (.int (0 : Int32)), .val (.int (1 : Int32)), .val (.int (2 : Int32)), .val (.int (0 : Int32)), .val (.int (2 : Int32)), .val (.int (1 : Int32)), .val (.int (0 : Int32))] [])) tgt
      refine XS.iload X12.here hx rfl (hb hby d5_71) rfl ?_
      show Steps p.tables e below (T12.setTop (mkF m 73 #[.val (.ref ob), .val (.int (2 : Int32)), .val (.ref nu), .val (.ref ro), .val (.int (1 : Int32)), .val (.int (0 : Int32)), .val (.int (1 : Int32)), .val (.int (2 : Int32)), .val (.int (0 : Int32)), .val (.int (2 : Int32)), .val (.int (1 : Int32)), .val (.int (0 : Int32))] [(.int (2 : Int32))])) tgt
      refine XS.iload X12.here hx rfl (hb hby d5_73) rfl ?_
      show Steps p.tables e below (T12.setTop (mkF m 75 #[.val (.ref ob), .val (.int (2 : Int32)), .val (.ref nu), .val (.ref ro), .val (.int (1 : Int32)), .val (.int (0 : Int32)), .val (.int (1 : Int32)), .val (.int (2 : Int32)), .val (.int (0 : Int32)), .val (.int (2 : Int32)), .val (.int (1 : Int32)), .val (.int (0 : Int32))] [(.int (2 : Int32)), (.int (2 : Int32))])) tgt
      refine XS.icmpYes X12.here hx rfl (pc0 := 75) (pc' := 100) rfl (hb hby d5_75) rfl (teq (by decide : (2 : Int32) = (2 : Int32))).1 (by decide) (by decide) ?_
      show Steps p.tables e below (T12.setTop (mkF m 100 #[.val (.ref ob), .val (.int (2 : Int32)), .val (.ref nu), .val (.ref ro), .val (.int (1 : Int32)), .val (.int (0 : Int32)), .val (.int (1 : Int32)), .val (.int (2 : Int32)), .val (.int (0 : Int32)), .val (.int (2 : Int32)), .val (.int (1 : Int32)), .val (.int (0 : Int32))] [])) tgt
      refine XS.iconst X12.here hx rfl (hb hby d5_100) ?_
      show Steps p.tables e below (T12.setTop (mkF m 101 #[.val (.ref ob), .val (.int (2 : Int32)), .val (.ref nu), .val (.ref ro), .val (.int (1 : Int32)), .val (.int (0 : Int32)), .val (.int (1 : Int32)), .val (.int (2 : Int32)), .val (.int (0 : Int32)), .val (.int (2 : Int32)), .val (.int (1 : Int32)), .val (.int (0 : Int32))] [(.int (1 : Int32))])) tgt
      refine XS.goto X12.here hx rfl (pc0 := 101) (pc' := 105) rfl (hb hby d5_101) (by decide) (by decide) ?_
      show Steps p.tables e below (T12.setTop (mkF m 105 #[.val (.ref ob), .val (.int (2 : Int32)), .val (.ref nu), .val (.ref ro), .val (.int (1 : Int32)), .val (.int (0 : Int32)), .val (.int (1 : Int32)), .val (.int (2 : Int32)), .val (.int (0 : Int32)), .val (.int (2 : Int32)), .val (.int (1 : Int32)), .val (.int (0 : Int32))] [(.int (1 : Int32))])) tgt
      refine XS.istore X12.here hx rfl (hb hby d5_105) rfl (l' := #[.val (.ref ob), .val (.int (2 : Int32)), .val (.ref nu), .val (.ref ro), .val (.int (1 : Int32)), .val (.int (0 : Int32)), .val (.int (1 : Int32)), .val (.int (2 : Int32)), .val (.int (0 : Int32)), .val (.int (2 : Int32)), .val (.int (1 : Int32)), .val (.int (1 : Int32))]) rfl ?_
      show Steps p.tables e below (T12.setTop (mkF m 107 #[.val (.ref ob), .val (.int (2 : Int32)), .val (.ref nu), .val (.ref ro), .val (.int (1 : Int32)), .val (.int (0 : Int32)), .val (.int (1 : Int32)), .val (.int (2 : Int32)), .val (.int (0 : Int32)), .val (.int (2 : Int32)), .val (.int (1 : Int32)), .val (.int (1 : Int32))] [])) tgt
      refine XS.aloadN X12.here hx rfl (hb hby d5_107) rfl rfl ?_
      show Steps p.tables e below (T12.setTop (mkF m 108 #[.val (.ref ob), .val (.int (2 : Int32)), .val (.ref nu), .val (.ref ro), .val (.int (1 : Int32)), .val (.int (0 : Int32)), .val (.int (1 : Int32)), .val (.int (2 : Int32)), .val (.int (0 : Int32)), .val (.int (2 : Int32)), .val (.int (1 : Int32)), .val (.int (1 : Int32))] [(.ref ro)])) tgt
      refine XS.iload X12.here hx rfl (hb hby d5_108) rfl ?_
      show Steps p.tables e below (T12.setTop (mkF m 110 #[.val (.ref ob), .val (.int (2 : Int32)), .val (.ref nu), .val (.ref ro), .val (.int (1 : Int32)), .val (.int (0 : Int32)), .val (.int (1 : Int32)), .val (.int (2 : Int32)), .val (.int (0 : Int32)), .val (.int (2 : Int32)), .val (.int (1 : Int32)), .val (.int (1 : Int32))] [(.int (1 : Int32)), (.ref ro)])) tgt
      refine XS.iload X12.here hx rfl (hb hby d5_110) rfl ?_
      show Steps p.tables e below (T12.setTop (mkF m 112 #[.val (.ref ob), .val (.int (2 : Int32)), .val (.ref nu), .val (.ref ro), .val (.int (1 : Int32)), .val (.int (0 : Int32)), .val (.int (1 : Int32)), .val (.int (2 : Int32)), .val (.int (0 : Int32)), .val (.int (2 : Int32)), .val (.int (1 : Int32)), .val (.int (1 : Int32))] [(.int (1 : Int32)), (.int (1 : Int32)), (.ref ro)])) tgt
      refine XS.ifNo X12.here hx rfl (hb hby d5_112) rfl ((if0 _ _).trans (feq (by decide : ¬ ((1 : Int32) = (0 : Int32)))).1) ?_
      show Steps p.tables e below (T12.setTop (mkF m 115 #[.val (.ref ob), .val (.int (2 : Int32)), .val (.ref nu), .val (.ref ro), .val (.int (1 : Int32)), .val (.int (0 : Int32)), .val (.int (1 : Int32)), .val (.int (2 : Int32)), .val (.int (0 : Int32)), .val (.int (2 : Int32)), .val (.int (1 : Int32)), .val (.int (1 : Int32))] [(.int (1 : Int32)), (.ref ro)])) tgt
      refine XS.aloadN X12.here hx rfl (hb hby d5_115) rfl rfl ?_
      show Steps p.tables e below (T12.setTop (mkF m 116 #[.val (.ref ob), .val (.int (2 : Int32)), .val (.ref nu), .val (.ref ro), .val (.int (1 : Int32)), .val (.int (0 : Int32)), .val (.int (1 : Int32)), .val (.int (2 : Int32)), .val (.int (0 : Int32)), .val (.int (2 : Int32)), .val (.int (1 : Int32)), .val (.int (1 : Int32))] [(.ref nu), (.int (1 : Int32)), (.ref ro)])) tgt
      refine XS.iload X12.here hx rfl (hb hby d5_116) rfl ?_
      show Steps p.tables e below (T12.setTop (mkF m 118 #[.val (.ref ob), .val (.int (2 : Int32)), .val (.ref nu), .val (.ref ro), .val (.int (1 : Int32)), .val (.int (0 : Int32)), .val (.int (1 : Int32)), .val (.int (2 : Int32)), .val (.int (0 : Int32)), .val (.int (2 : Int32)), .val (.int (1 : Int32)), .val (.int (1 : Int32))] [(.int (0 : Int32)), (.ref nu), (.int (1 : Int32)), (.ref ro)])) tgt
      refine XS.iinc X12.here hx rfl (hb hby d5_118) rfl (l' := #[.val (.ref ob), .val (.int (2 : Int32)), .val (.ref nu), .val (.ref ro), .val (.int (1 : Int32)), .val (.int (0 : Int32)), .val (.int (1 : Int32)), .val (.int (2 : Int32)), .val (.int ((0 : Int32) + (1 : Int32))), .val (.int (2 : Int32)), .val (.int (1 : Int32)), .val (.int (1 : Int32))]) rfl ?_
      exact k
    rw [show ((0 : Int32) + (1 : Int32)) = (1 : Int32) from by decide]
    refine own_st (V := T12.setTop (mkF m 132 #[.val (.ref ob), .val (.int (2 : Int32)), .val (.ref nu), .val (.ref ro), .val (.int (1 : Int32)), .val (.int (0 : Int32)), .val (.int (1 : Int32)), .val (.int (2 : Int32)), .val (.int (1 : Int32)), .val (.int (2 : Int32)), .val (.int (1 : Int32)), .val (.int (1 : Int32))] [(.int (fn 0)), (.int (1 : Int32)), (.ref ro)])) (fun tgt k => ?_) ?_
    · show Steps p.tables e below (T12.setTop (mkF m 121 #[.val (.ref ob), .val (.int (2 : Int32)), .val (.ref nu), .val (.ref ro), .val (.int (1 : Int32)), .val (.int (0 : Int32)), .val (.int (1 : Int32)), .val (.int (2 : Int32)), .val (.int (1 : Int32)), .val (.int (2 : Int32)), .val (.int (1 : Int32)), .val (.int (1 : Int32))] [(.int (0 : Int32)), (.ref nu), (.int (1 : Int32)), (.ref ro)])) tgt
      refine own_iaload X12 hx hZ e12 A_nu_12 (j := (0 : Int32)) (k := 0) rfl (by decide) (g := (mkF m 121 #[.val (.ref ob), .val (.int (2 : Int32)), .val (.ref nu), .val (.ref ro), .val (.int (1 : Int32)), .val (.int (0 : Int32)), .val (.int (1 : Int32)), .val (.int (2 : Int32)), .val (.int (1 : Int32)), .val (.int (2 : Int32)), .val (.int (1 : Int32)), .val (.int (1 : Int32))] [(.int (0 : Int32)), (.ref nu), (.int (1 : Int32)), (.ref ro)])) rfl rfl (hb hby d5_121) ?_
      show Steps p.tables e below (T12.setTop (mkF m 122 #[.val (.ref ob), .val (.int (2 : Int32)), .val (.ref nu), .val (.ref ro), .val (.int (1 : Int32)), .val (.int (0 : Int32)), .val (.int (1 : Int32)), .val (.int (2 : Int32)), .val (.int (1 : Int32)), .val (.int (2 : Int32)), .val (.int (1 : Int32)), .val (.int (1 : Int32))] [(.int (fn 0)), (.int (1 : Int32)), (.ref ro)])) tgt
      refine XS.goto X12.here hx rfl (pc0 := 122) (pc' := 132) rfl (hb hby d5_122) (by decide) (by decide) ?_
      exact k
    obtain ⟨T13, h13, X13, e13, W13, A_ro_13, st13⟩ := own_iastore X12 hx hZ e12 A_ro_12 (j := (1 : Int32)) (k := 1) rfl (by decide) (g := (mkF m 132 #[.val (.ref ob), .val (.int (2 : Int32)), .val (.ref nu), .val (.ref ro), .val (.int (1 : Int32)), .val (.int (0 : Int32)), .val (.int (1 : Int32)), .val (.int (2 : Int32)), .val (.int (1 : Int32)), .val (.int (2 : Int32)), .val (.int (1 : Int32)), .val (.int (1 : Int32))] [(.int (fn 0)), (.int (1 : Int32)), (.ref ro)])) rfl rfl (hb hby d5_132)
    have E_ob_13 := E_ob_12.wr W13
    have F_ob_numbers_13 := Fld.other W13 F_ob_numbers_12 (Or.inl NE5)
    have F_ob_keys_13 := Fld.other W13 F_ob_keys_12 (Or.inl NE5)
    have F_ob_room_13 := Fld.other W13 F_ob_room_12 (Or.inl NE5)
    have A_nu_13 := A_nu_12.other W13 NE2
    have A_ke_13 := A_ke_12.other W13 NE3
    have N13 := Fr.snoc X13 N12 G2
    have Zs13 : n0 ≤ h13.size := Nat.le_trans Zs12 (Keep.of_wr W13).1
    have Kp13 := Kp12.wr W13 (Or.inl (List.mem_of_getElem? (i := 1) rfl))
    refine own_st st13 ?_
    show own_Go p e below _ (T13.setTop (mkF m 133 #[.val (.ref ob), .val (.int (2 : Int32)), .val (.ref nu), .val (.ref ro), .val (.int (1 : Int32)), .val (.int (0 : Int32)), .val (.int (1 : Int32)), .val (.int (2 : Int32)), .val (.int (1 : Int32)), .val (.int (2 : Int32)), .val (.int (1 : Int32)), .val (.int (1 : Int32))] []))
    refine own_st (V := T13.setTop (mkF m 136 #[.val (.ref ob), .val (.int (2 : Int32)), .val (.ref nu), .val (.ref ro), .val (.int (1 : Int32)), .val (.int (0 : Int32)), .val (.int (1 : Int32)), .val (.int (2 : Int32)), .val (.int (1 : Int32)), .val (.int (2 : Int32)), .val (.int ((1 : Int32) + (1 : Int32))), .val (.int (1 : Int32))] [])) (fun tgt k => ?_) ?_
    · show Steps p.tables e below (T13.setTop (mkF m 133 #[.val (.ref ob), .val (.int (2 : Int32)), .val (.ref nu), .val (.ref ro), .val (.int (1 : Int32)), .val (.int (0 : Int32)), .val (.int (1 : Int32)), .val (.int (2 : Int32)), .val (.int (1 : Int32)), .val (.int (2 : Int32)), .val (.int (1 : Int32)), .val (.int (1 : Int32))] [])) tgt
      refine XS.iinc X13.here hx rfl (hb hby d5_133) rfl (l' := #[.val (.ref ob), .val (.int (2 : Int32)), .val (.ref nu), .val (.ref ro), .val (.int (1 : Int32)), .val (.int (0 : Int32)), .val (.int (1 : Int32)), .val (.int (2 : Int32)), .val (.int (1 : Int32)), .val (.int (2 : Int32)), .val (.int ((1 : Int32) + (1 : Int32))), .val (.int (1 : Int32))]) rfl ?_
      exact k
    rw [show ((1 : Int32) + (1 : Int32)) = (2 : Int32) from by decide]
    refine own_st (V := T13.setTop (mkF m 145 #[.val (.ref ob), .val (.int (2 : Int32)), .val (.ref nu), .val (.ref ro), .val (.int (1 : Int32)), .val (.int (0 : Int32)), .val (.int (1 : Int32)), .val (.int (2 : Int32)), .val (.int (1 : Int32)), .val (.int (2 : Int32)), .val (.int (2 : Int32)), .val (.int (1 : Int32))] [(.int ((2 : Int32) * (1 : Int32))), (.int (0 : Int32))])) (fun tgt k => ?_) ?_
    · show Steps p.tables e below (T13.setTop (mkF m 136 #[.val (.ref ob), .val (.int (2 : Int32)), .val (.ref nu), .val (.ref ro), .val (.int (1 : Int32)), .val (.int (0 : Int32)), .val (.int (1 : Int32)), .val (.int (2 : Int32)), .val (.int (1 : Int32)), .val (.int (2 : Int32)), .val (.int (2 : Int32)), .val (.int (1 : Int32))] [])) tgt
      refine XS.goto X13.here hx rfl (pc0 := 136) (pc' := 64) rfl (hb hby d5_136) (by decide) (by decide) ?_
      show Steps p.tables e below (T13.setTop (mkF m 64 #[.val (.ref ob), .val (.int (2 : Int32)), .val (.ref nu), .val (.ref ro), .val (.int (1 : Int32)), .val (.int (0 : Int32)), .val (.int (1 : Int32)), .val (.int (2 : Int32)), .val (.int (1 : Int32)), .val (.int (2 : Int32)), .val (.int (2 : Int32)), .val (.int (1 : Int32))] [])) tgt
      refine XS.iload X13.here hx rfl (hb hby d5_64) rfl ?_
      show Steps p.tables e below (T13.setTop (mkF m 66 #[.val (.ref ob), .val (.int (2 : Int32)), .val (.ref nu), .val (.ref ro), .val (.int (1 : Int32)), .val (.int (0 : Int32)), .val (.int (1 : Int32)), .val (.int (2 : Int32)), .val (.int (1 : Int32)), .val (.int (2 : Int32)), .val (.int (2 : Int32)), .val (.int (1 : Int32))] [(.int (2 : Int32))])) tgt
      refine XS.iload X13.here hx rfl (hb hby d5_66) rfl ?_
      show Steps p.tables e below (T13.setTop (mkF m 68 #[.val (.ref ob), .val (.int (2 : Int32)), .val (.ref nu), .val (.ref ro), .val (.int (1 : Int32)), .val (.int (0 : Int32)), .val (.int (1 : Int32)), .val (.int (2 : Int32)), .val (.int (1 : Int32)), .val (.int (2 : Int32)), .val (.int (2 : Int32)), .val (.int (1 : Int32))] [(.int (2 : Int32)), (.int (2 : Int32))])) tgt
      refine XS.icmpYes X13.here hx rfl (pc0 := 68) (pc' := 139) rfl (hb hby d5_68) rfl (flt (by decide : ¬ ((2 : Int32) < (2 : Int32)))).2.1 (by decide) (by decide) ?_
      show Steps p.tables e below (T13.setTop (mkF m 139 #[.val (.ref ob), .val (.int (2 : Int32)), .val (.ref nu), .val (.ref ro), .val (.int (1 : Int32)), .val (.int (0 : Int32)), .val (.int (1 : Int32)), .val (.int (2 : Int32)), .val (.int (1 : Int32)), .val (.int (2 : Int32)), .val (.int (2 : Int32)), .val (.int (1 : Int32))] [])) tgt
      refine XS.iload X13.here hx rfl (hb hby d5_139) rfl ?_
      show Steps p.tables e below (T13.setTop (mkF m 141 #[.val (.ref ob), .val (.int (2 : Int32)), .val (.ref nu), .val (.ref ro), .val (.int (1 : Int32)), .val (.int (0 : Int32)), .val (.int (1 : Int32)), .val (.int (2 : Int32)), .val (.int (1 : Int32)), .val (.int (2 : Int32)), .val (.int (2 : Int32)), .val (.int (1 : Int32))] [(.int (0 : Int32))])) tgt
      refine XS.iconst X13.here hx rfl (hb hby d5_141) ?_
      show Steps p.tables e below (T13.setTop (mkF m 142 #[.val (.ref ob), .val (.int (2 : Int32)), .val (.ref nu), .val (.ref ro), .val (.int (1 : Int32)), .val (.int (0 : Int32)), .val (.int (1 : Int32)), .val (.int (2 : Int32)), .val (.int (1 : Int32)), .val (.int (2 : Int32)), .val (.int (2 : Int32)), .val (.int (1 : Int32))] [(.int (2 : Int32)), (.int (0 : Int32))])) tgt
      refine XS.iload X13.here hx rfl (hb hby d5_142) rfl ?_
      show Steps p.tables e below (T13.setTop (mkF m 144 #[.val (.ref ob), .val (.int (2 : Int32)), .val (.ref nu), .val (.ref ro), .val (.int (1 : Int32)), .val (.int (0 : Int32)), .val (.int (1 : Int32)), .val (.int (2 : Int32)), .val (.int (1 : Int32)), .val (.int (2 : Int32)), .val (.int (2 : Int32)), .val (.int (1 : Int32))] [(.int (1 : Int32)), (.int (2 : Int32)), (.int (0 : Int32))])) tgt
      refine XS.imul X13.here hx rfl (hb hby d5_144) rfl ?_
      exact k
    rw [show ((2 : Int32) * (1 : Int32)) = (2 : Int32) from by decide]
    refine own_st (V := T13.setTop (mkF m 146 #[.val (.ref ob), .val (.int (2 : Int32)), .val (.ref nu), .val (.ref ro), .val (.int (1 : Int32)), .val (.int (0 : Int32)), .val (.int (1 : Int32)), .val (.int (2 : Int32)), .val (.int (1 : Int32)), .val (.int (2 : Int32)), .val (.int (2 : Int32)), .val (.int (1 : Int32))] [(.int ((0 : Int32) + (2 : Int32)))])) (fun tgt k => ?_) ?_
    · show Steps p.tables e below (T13.setTop (mkF m 145 #[.val (.ref ob), .val (.int (2 : Int32)), .val (.ref nu), .val (.ref ro), .val (.int (1 : Int32)), .val (.int (0 : Int32)), .val (.int (1 : Int32)), .val (.int (2 : Int32)), .val (.int (1 : Int32)), .val (.int (2 : Int32)), .val (.int (2 : Int32)), .val (.int (1 : Int32))] [(.int (2 : Int32)), (.int (0 : Int32))])) tgt
      refine XS.iadd X13.here hx rfl (hb hby d5_145) rfl ?_
      exact k
    rw [show ((0 : Int32) + (2 : Int32)) = (2 : Int32) from by decide]
    refine own_st (V := T13.setTop (mkF m 163 #[.val (.ref ob), .val (.int (2 : Int32)), .val (.ref ro), .val (.ref nu), .val (.int (1 : Int32)), .val (.ref ro), .val (.int (1 : Int32)), .val (.int (2 : Int32)), .val (.int (1 : Int32)), .val (.int (2 : Int32)), .val (.int (2 : Int32)), .val (.int (1 : Int32))] [(.int ((1 : Int32) * (2 : Int32)))])) (fun tgt k => ?_) ?_
    · show Steps p.tables e below (T13.setTop (mkF m 146 #[.val (.ref ob), .val (.int (2 : Int32)), .val (.ref nu), .val (.ref ro), .val (.int (1 : Int32)), .val (.int (0 : Int32)), .val (.int (1 : Int32)), .val (.int (2 : Int32)), .val (.int (1 : Int32)), .val (.int (2 : Int32)), .val (.int (2 : Int32)), .val (.int (1 : Int32))] [(.int (2 : Int32))])) tgt
      refine XS.istore X13.here hx rfl (hb hby d5_146) rfl (l' := #[.val (.ref ob), .val (.int (2 : Int32)), .val (.ref nu), .val (.ref ro), .val (.int (1 : Int32)), .val (.int (2 : Int32)), .val (.int (1 : Int32)), .val (.int (2 : Int32)), .val (.int (1 : Int32)), .val (.int (2 : Int32)), .val (.int (2 : Int32)), .val (.int (1 : Int32))]) rfl ?_
      show Steps p.tables e below (T13.setTop (mkF m 148 #[.val (.ref ob), .val (.int (2 : Int32)), .val (.ref nu), .val (.ref ro), .val (.int (1 : Int32)), .val (.int (2 : Int32)), .val (.int (1 : Int32)), .val (.int (2 : Int32)), .val (.int (1 : Int32)), .val (.int (2 : Int32)), .val (.int (2 : Int32)), .val (.int (1 : Int32))] [])) tgt
      refine XS.goto X13.here hx rfl (pc0 := 148) (pc' := 22) rfl (hb hby d5_148) (by decide) (by decide) ?_
      show Steps p.tables e below (T13.setTop (mkF m 22 #[.val (.ref ob), .val (.int (2 : Int32)), .val (.ref nu), .val (.ref ro), .val (.int (1 : Int32)), .val (.int (2 : Int32)), .val (.int (1 : Int32)), .val (.int (2 : Int32)), .val (.int (1 : Int32)), .val (.int (2 : Int32)), .val (.int (2 : Int32)), .val (.int (1 : Int32))] [])) tgt
      refine XS.iload X13.here hx rfl (hb hby d5_22) rfl ?_
      show Steps p.tables e below (T13.setTop (mkF m 24 #[.val (.ref ob), .val (.int (2 : Int32)), .val (.ref nu), .val (.ref ro), .val (.int (1 : Int32)), .val (.int (2 : Int32)), .val (.int (1 : Int32)), .val (.int (2 : Int32)), .val (.int (1 : Int32)), .val (.int (2 : Int32)), .val (.int (2 : Int32)), .val (.int (1 : Int32))] [(.int (2 : Int32))])) tgt
      refine XS.iloadN X13.here hx rfl (hb hby d5_24) rfl ?_
      show Steps p.tables e below (T13.setTop (mkF m 25 #[.val (.ref ob), .val (.int (2 : Int32)), .val (.ref nu), .val (.ref ro), .val (.int (1 : Int32)), .val (.int (2 : Int32)), .val (.int (1 : Int32)), .val (.int (2 : Int32)), .val (.int (1 : Int32)), .val (.int (2 : Int32)), .val (.int (2 : Int32)), .val (.int (1 : Int32))] [(.int (2 : Int32)), (.int (2 : Int32))])) tgt
      refine XS.icmpYes X13.here hx rfl (pc0 := 25) (pc' := 151) rfl (hb hby d5_25) rfl (flt (by decide : ¬ ((2 : Int32) < (2 : Int32)))).2.1 (by decide) (by decide) ?_
      show Steps p.tables e below (T13.setTop (mkF m 151 #[.val (.ref ob), .val (.int (2 : Int32)), .val (.ref nu), .val (.ref ro), .val (.int (1 : Int32)), .val (.int (2 : Int32)), .val (.int (1 : Int32)), .val (.int (2 : Int32)), .val (.int (1 : Int32)), .val (.int (2 : Int32)), .val (.int (2 : Int32)), .val (.int (1 : Int32))] [])) tgt
      refine XS.aloadN X13.here hx rfl (hb hby d5_151) rfl rfl ?_
      show Steps p.tables e below (T13.setTop (mkF m 152 #[.val (.ref ob), .val (.int (2 : Int32)), .val (.ref nu), .val (.ref ro), .val (.int (1 : Int32)), .val (.int (2 : Int32)), .val (.int (1 : Int32)), .val (.int (2 : Int32)), .val (.int (1 : Int32)), .val (.int (2 : Int32)), .val (.int (2 : Int32)), .val (.int (1 : Int32))] [(.ref ro)])) tgt
      refine XS.astore X13.here hx rfl (hb hby d5_152) rfl rfl (l' := #[.val (.ref ob), .val (.int (2 : Int32)), .val (.ref nu), .val (.ref ro), .val (.int (1 : Int32)), .val (.ref ro), .val (.int (1 : Int32)), .val (.int (2 : Int32)), .val (.int (1 : Int32)), .val (.int (2 : Int32)), .val (.int (2 : Int32)), .val (.int (1 : Int32))]) rfl ?_
      show Steps p.tables e below (T13.setTop (mkF m 154 #[.val (.ref ob), .val (.int (2 : Int32)), .val (.ref nu), .val (.ref ro), .val (.int (1 : Int32)), .val (.ref ro), .val (.int (1 : Int32)), .val (.int (2 : Int32)), .val (.int (1 : Int32)), .val (.int (2 : Int32)), .val (.int (2 : Int32)), .val (.int (1 : Int32))] [])) tgt
      refine XS.aloadN X13.here hx rfl (hb hby d5_154) rfl rfl ?_
      show Steps p.tables e below (T13.setTop (mkF m 155 #[.val (.ref ob), .val (.int (2 : Int32)), .val (.ref nu), .val (.ref ro), .val (.int (1 : Int32)), .val (.ref ro), .val (.int (1 : Int32)), .val (.int (2 : Int32)), .val (.int (1 : Int32)), .val (.int (2 : Int32)), .val (.int (2 : Int32)), .val (.int (1 : Int32))] [(.ref nu)])) tgt
      refine XS.astoreN X13.here hx rfl (hb hby d5_155) rfl rfl (l' := #[.val (.ref ob), .val (.int (2 : Int32)), .val (.ref nu), .val (.ref nu), .val (.int (1 : Int32)), .val (.ref ro), .val (.int (1 : Int32)), .val (.int (2 : Int32)), .val (.int (1 : Int32)), .val (.int (2 : Int32)), .val (.int (2 : Int32)), .val (.int (1 : Int32))]) rfl ?_
      show Steps p.tables e below (T13.setTop (mkF m 156 #[.val (.ref ob), .val (.int (2 : Int32)), .val (.ref nu), .val (.ref nu), .val (.int (1 : Int32)), .val (.ref ro), .val (.int (1 : Int32)), .val (.int (2 : Int32)), .val (.int (1 : Int32)), .val (.int (2 : Int32)), .val (.int (2 : Int32)), .val (.int (1 : Int32))] [])) tgt
      refine XS.aload X13.here hx rfl (hb hby d5_156) rfl rfl ?_
      show Steps p.tables e below (T13.setTop (mkF m 158 #[.val (.ref ob), .val (.int (2 : Int32)), .val (.ref nu), .val (.ref nu), .val (.int (1 : Int32)), .val (.ref ro), .val (.int (1 : Int32)), .val (.int (2 : Int32)), .val (.int (1 : Int32)), .val (.int (2 : Int32)), .val (.int (2 : Int32)), .val (.int (1 : Int32))] [(.ref ro)])) tgt
      refine XS.astoreN X13.here hx rfl (hb hby d5_158) rfl rfl (l' := #[.val (.ref ob), .val (.int (2 : Int32)), .val (.ref ro), .val (.ref nu), .val (.int (1 : Int32)), .val (.ref ro), .val (.int (1 : Int32)), .val (.int (2 : Int32)), .val (.int (1 : Int32)), .val (.int (2 : Int32)), .val (.int (2 : Int32)), .val (.int (1 : Int32))]) rfl ?_
      show Steps p.tables e below (T13.setTop (mkF m 159 #[.val (.ref ob), .val (.int (2 : Int32)), .val (.ref ro), .val (.ref nu), .val (.int (1 : Int32)), .val (.ref ro), .val (.int (1 : Int32)), .val (.int (2 : Int32)), .val (.int (1 : Int32)), .val (.int (2 : Int32)), .val (.int (2 : Int32)), .val (.int (1 : Int32))] [])) tgt
      refine XS.iload X13.here hx rfl (hb hby d5_159) rfl ?_
      show Steps p.tables e below (T13.setTop (mkF m 161 #[.val (.ref ob), .val (.int (2 : Int32)), .val (.ref ro), .val (.ref nu), .val (.int (1 : Int32)), .val (.ref ro), .val (.int (1 : Int32)), .val (.int (2 : Int32)), .val (.int (1 : Int32)), .val (.int (2 : Int32)), .val (.int (2 : Int32)), .val (.int (1 : Int32))] [(.int (1 : Int32))])) tgt
      refine XS.iconst X13.here hx rfl (hb hby d5_161) ?_
      show Steps p.tables e below (T13.setTop (mkF m 162 #[.val (.ref ob), .val (.int (2 : Int32)), .val (.ref ro), .val (.ref nu), .val (.int (1 : Int32)), .val (.ref ro), .val (.int (1 : Int32)), .val (.int (2 : Int32)), .val (.int (1 : Int32)), .val (.int (2 : Int32)), .val (.int (2 : Int32)), .val (.int (1 : Int32))] [(.int (2 : Int32)), (.int (1 : Int32))])) tgt
      refine XS.imul X13.here hx rfl (hb hby d5_162) rfl ?_
      exact k
    rw [show ((1 : Int32) * (2 : Int32)) = (2 : Int32) from by decide]
    refine own_st (V := T13.setTop (mkF m 170 #[.val (.ref ob), .val (.int (2 : Int32)), .val (.ref ro), .val (.ref nu), .val (.int (2 : Int32)), .val (.ref ro), .val (.int (1 : Int32)), .val (.int (2 : Int32)), .val (.int (1 : Int32)), .val (.int (2 : Int32)), .val (.int (2 : Int32)), .val (.int (1 : Int32))] [(.ref ob), (.ref ro)])) (fun tgt k => ?_) ?_
    · show Steps p.tables e below (T13.setTop (mkF m 163 #[.val (.ref ob), .val (.int (2 : Int32)), .val (.ref ro), .val (.ref nu), .val (.int (1 : Int32)), .val (.ref ro), .val (.int (1 : Int32)), .val (.int (2 : Int32)), .val (.int (1 : Int32)), .val (.int (2 : Int32)), .val (.int (2 : Int32)), .val (.int (1 : Int32))] [(.int (2 : Int32))])) tgt
      refine XS.istore X13.here hx rfl (hb hby d5_163) rfl (l' := #[.val (.ref ob), .val (.int (2 : Int32)), .val (.ref ro), .val (.ref nu), .val (.int (2 : Int32)), .val (.ref ro), .val (.int (1 : Int32)), .val (.int (2 : Int32)), .val (.int (1 : Int32)), .val (.int (2 : Int32)), .val (.int (2 : Int32)), .val (.int (1 : Int32))]) rfl ?_
      show Steps p.tables e below (T13.setTop (mkF m 165 #[.val (.ref ob), .val (.int (2 : Int32)), .val (.ref ro), .val (.ref nu), .val (.int (2 : Int32)), .val (.ref ro), .val (.int (1 : Int32)), .val (.int (2 : Int32)), .val (.int (1 : Int32)), .val (.int (2 : Int32)), .val (.int (2 : Int32)), .val (.int (1 : Int32))] [])) tgt
      refine XS.goto X13.here hx rfl (pc0 := 165) (pc' := 13) rfl (hb hby d5_165) (by decide) (by decide) ?_
      show Steps p.tables e below (T13.setTop (mkF m 13 #[.val (.ref ob), .val (.int (2 : Int32)), .val (.ref ro), .val (.ref nu), .val (.int (2 : Int32)), .val (.ref ro), .val (.int (1 : Int32)), .val (.int (2 : Int32)), .val (.int (1 : Int32)), .val (.int (2 : Int32)), .val (.int (2 : Int32)), .val (.int (1 : Int32))] [])) tgt
      refine XS.iload X13.here hx rfl (hb hby d5_13) rfl ?_
      show Steps p.tables e below (T13.setTop (mkF m 15 #[.val (.ref ob), .val (.int (2 : Int32)), .val (.ref ro), .val (.ref nu), .val (.int (2 : Int32)), .val (.ref ro), .val (.int (1 : Int32)), .val (.int (2 : Int32)), .val (.int (1 : Int32)), .val (.int (2 : Int32)), .val (.int (2 : Int32)), .val (.int (1 : Int32))] [(.int (2 : Int32))])) tgt
      refine XS.iloadN X13.here hx rfl (hb hby d5_15) rfl ?_
      show Steps p.tables e below (T13.setTop (mkF m 16 #[.val (.ref ob), .val (.int (2 : Int32)), .val (.ref ro), .val (.ref nu), .val (.int (2 : Int32)), .val (.ref ro), .val (.int (1 : Int32)), .val (.int (2 : Int32)), .val (.int (1 : Int32)), .val (.int (2 : Int32)), .val (.int (2 : Int32)), .val (.int (1 : Int32))] [(.int (2 : Int32)), (.int (2 : Int32))])) tgt
      refine XS.icmpYes X13.here hx rfl (pc0 := 16) (pc' := 168) rfl (hb hby d5_16) rfl (flt (by decide : ¬ ((2 : Int32) < (2 : Int32)))).2.1 (by decide) (by decide) ?_
      show Steps p.tables e below (T13.setTop (mkF m 168 #[.val (.ref ob), .val (.int (2 : Int32)), .val (.ref ro), .val (.ref nu), .val (.int (2 : Int32)), .val (.ref ro), .val (.int (1 : Int32)), .val (.int (2 : Int32)), .val (.int (1 : Int32)), .val (.int (2 : Int32)), .val (.int (2 : Int32)), .val (.int (1 : Int32))] [])) tgt
      refine XS.aloadN X13.here hx rfl (hb hby d5_168) rfl rfl ?_
      show Steps p.tables e below (T13.setTop (mkF m 169 #[.val (.ref ob), .val (.int (2 : Int32)), .val (.ref ro), .val (.ref nu), .val (.int (2 : Int32)), .val (.ref ro), .val (.int (1 : Int32)), .val (.int (2 : Int32)), .val (.int (1 : Int32)), .val (.int (2 : Int32)), .val (.int (2 : Int32)), .val (.int (1 : Int32))] [(.ref ro)])) tgt
      refine XS.aloadN X13.here hx rfl (hb hby d5_169) rfl rfl ?_
      exact k
    obtain ⟨T14, X14, e14, st14⟩ := getF X13 hx hZ hown (host := "") (Or.inl (hw _ (List.mem_of_getElem? (i := 10) rfl))) Via.refl e13 F_ob_numbers_13 (g := (mkF m 170 #[.val (.ref ob), .val (.int (2 : Int32)), .val (.ref ro), .val (.ref nu), .val (.int (2 : Int32)), .val (.ref ro), .val (.int (1 : Int32)), .val (.int (2 : Int32)), .val (.int (1 : Int32)), .val (.int (2 : Int32)), .val (.int (2 : Int32)), .val (.int (1 : Int32))] [(.ref ob), (.ref ro)])) rfl rfl (hb hby d5_170)
    refine own_st st14 ?_
    show own_Go p e below _ (T14.setTop (mkF m 173 #[.val (.ref ob), .val (.int (2 : Int32)), .val (.ref ro), .val (.ref nu), .val (.int (2 : Int32)), .val (.ref ro), .val (.int (1 : Int32)), .val (.int (2 : Int32)), .val (.int (1 : Int32)), .val (.int (2 : Int32)), .val (.int (2 : Int32)), .val (.int (1 : Int32))] [(.ref nu), (.ref ro)]))
    refine own_st (fun tgt k => Jvm.RoadKit.acmp (g := (mkF m 173 #[.val (.ref ob), .val (.int (2 : Int32)), .val (.ref ro), .val (.ref nu), .val (.int (2 : Int32)), .val (.ref ro), .val (.int (1 : Int32)), .val (.int (2 : Int32)), .val (.int (1 : Int32)), .val (.int (2 : Int32)), .val (.int (2 : Int32)), .val (.int (1 : Int32))] [(.ref nu), (.ref ro)])) X14 hx rfl rfl rfl (pc0 := 173) (pc' := 176) (same := false) rfl (hb hby d5_173) rfl (decide_eq_false fun q => (Ne.symm NE2) (Value.ref.inj q)) (by decide) (by decide) k) ?_
    show own_Go p e below _ (T14.setTop (mkF m 176 #[.val (.ref ob), .val (.int (2 : Int32)), .val (.ref ro), .val (.ref nu), .val (.int (2 : Int32)), .val (.ref ro), .val (.int (1 : Int32)), .val (.int (2 : Int32)), .val (.int (1 : Int32)), .val (.int (2 : Int32)), .val (.int (2 : Int32)), .val (.int (1 : Int32))] []))
    refine own_st (V := T14.setTop (mkF m 179 #[.val (.ref ob), .val (.int (2 : Int32)), .val (.ref ro), .val (.ref nu), .val (.int (2 : Int32)), .val (.ref ro), .val (.int (1 : Int32)), .val (.int (2 : Int32)), .val (.int (1 : Int32)), .val (.int (2 : Int32)), .val (.int (2 : Int32)), .val (.int (1 : Int32))] [(.ref ob), (.int (0 : Int32)), (.ref ro)])) (fun tgt k => ?_) ?_
    · show Steps p.tables e below (T14.setTop (mkF m 176 #[.val (.ref ob), .val (.int (2 : Int32)), .val (.ref ro), .val (.ref nu), .val (.int (2 : Int32)), .val (.ref ro), .val (.int (1 : Int32)), .val (.int (2 : Int32)), .val (.int (1 : Int32)), .val (.int (2 : Int32)), .val (.int (2 : Int32)), .val (.int (1 : Int32))] [])) tgt
      refine XS.aloadN X14.here hx rfl (hb hby d5_176) rfl rfl ?_
      show Steps p.tables e below (T14.setTop (mkF m 177 #[.val (.ref ob), .val (.int (2 : Int32)), .val (.ref ro), .val (.ref nu), .val (.int (2 : Int32)), .val (.ref ro), .val (.int (1 : Int32)), .val (.int (2 : Int32)), .val (.int (1 : Int32)), .val (.int (2 : Int32)), .val (.int (2 : Int32)), .val (.int (1 : Int32))] [(.ref ro)])) tgt
      refine XS.iconst X14.here hx rfl (hb hby d5_177) ?_
      show Steps p.tables e below (T14.setTop (mkF m 178 #[.val (.ref ob), .val (.int (2 : Int32)), .val (.ref ro), .val (.ref nu), .val (.int (2 : Int32)), .val (.ref ro), .val (.int (1 : Int32)), .val (.int (2 : Int32)), .val (.int (1 : Int32)), .val (.int (2 : Int32)), .val (.int (2 : Int32)), .val (.int (1 : Int32))] [(.int (0 : Int32)), (.ref ro)])) tgt
      refine XS.aloadN X14.here hx rfl (hb hby d5_178) rfl rfl ?_
      exact k
    obtain ⟨T15, X15, e15, st15⟩ := getF X14 hx hZ hown (host := "") (Or.inl (hw _ (List.mem_of_getElem? (i := 10) rfl))) Via.refl e14 F_ob_numbers_13 (g := (mkF m 179 #[.val (.ref ob), .val (.int (2 : Int32)), .val (.ref ro), .val (.ref nu), .val (.int (2 : Int32)), .val (.ref ro), .val (.int (1 : Int32)), .val (.int (2 : Int32)), .val (.int (1 : Int32)), .val (.int (2 : Int32)), .val (.int (2 : Int32)), .val (.int (1 : Int32))] [(.ref ob), (.int (0 : Int32)), (.ref ro)])) rfl rfl (hb hby d5_179)
    refine own_st st15 ?_
    show own_Go p e below _ (T15.setTop (mkF m 182 #[.val (.ref ob), .val (.int (2 : Int32)), .val (.ref ro), .val (.ref nu), .val (.int (2 : Int32)), .val (.ref ro), .val (.int (1 : Int32)), .val (.int (2 : Int32)), .val (.int (1 : Int32)), .val (.int (2 : Int32)), .val (.int (2 : Int32)), .val (.int (1 : Int32))] [(.ref nu), (.int (0 : Int32)), (.ref ro)]))
    refine own_st (V := T15.setTop (mkF m 184 #[.val (.ref ob), .val (.int (2 : Int32)), .val (.ref ro), .val (.ref nu), .val (.int (2 : Int32)), .val (.ref ro), .val (.int (1 : Int32)), .val (.int (2 : Int32)), .val (.int (1 : Int32)), .val (.int (2 : Int32)), .val (.int (2 : Int32)), .val (.int (1 : Int32))] [(.int (2 : Int32)), (.int (0 : Int32)), (.ref nu), (.int (0 : Int32)), (.ref ro)])) (fun tgt k => ?_) ?_
    · show Steps p.tables e below (T15.setTop (mkF m 182 #[.val (.ref ob), .val (.int (2 : Int32)), .val (.ref ro), .val (.ref nu), .val (.int (2 : Int32)), .val (.ref ro), .val (.int (1 : Int32)), .val (.int (2 : Int32)), .val (.int (1 : Int32)), .val (.int (2 : Int32)), .val (.int (2 : Int32)), .val (.int (1 : Int32))] [(.ref nu), (.int (0 : Int32)), (.ref ro)])) tgt
      refine XS.iconst X15.here hx rfl (hb hby d5_182) ?_
      show Steps p.tables e below (T15.setTop (mkF m 183 #[.val (.ref ob), .val (.int (2 : Int32)), .val (.ref ro), .val (.ref nu), .val (.int (2 : Int32)), .val (.ref ro), .val (.int (1 : Int32)), .val (.int (2 : Int32)), .val (.int (1 : Int32)), .val (.int (2 : Int32)), .val (.int (2 : Int32)), .val (.int (1 : Int32))] [(.int (0 : Int32)), (.ref nu), (.int (0 : Int32)), (.ref ro)])) tgt
      refine XS.iloadN X15.here hx rfl (hb hby d5_183) rfl ?_
      exact k
    obtain ⟨T16, h16, L16, X16, e16, N16, K16, A_nu_16, st16⟩ := own_acopy X15 hx hZ hown (hw _ (List.mem_of_getElem? (i := 40) rfl)) (hw _ (List.mem_of_getElem? (i := 43) rfl)) (hw _ (List.mem_of_getElem? (i := 41) rfl)) (hw _ (List.mem_of_getElem? (i := 42) rfl)) e15 A_ro_13 A_nu_13 (nn := (2 : Int32)) (by decide) N13 G1 (g := (mkF m 184 #[.val (.ref ob), .val (.int (2 : Int32)), .val (.ref ro), .val (.ref nu), .val (.int (2 : Int32)), .val (.ref ro), .val (.int (1 : Int32)), .val (.int (2 : Int32)), .val (.int (1 : Int32)), .val (.int (2 : Int32)), .val (.int (2 : Int32)), .val (.int (1 : Int32))] [(.int (2 : Int32)), (.int (0 : Int32)), (.ref nu), (.int (0 : Int32)), (.ref ro)])) rfl (by rw [hml]; rfl) rfl (hb hby d5_184) (by decide) (W := 0) (by show 2 * 0 + _ ≤ _; exact Nat.le_of_eq rfl) (by decide)
    have E_ob_16 := E_ob_13.keep K16
    have F_ob_numbers_16 := F_ob_numbers_13.keep K16 (ninS NE4 nin0)
    have F_ob_keys_16 := F_ob_keys_13.keep K16 (ninS NE4 nin0)
    have F_ob_room_16 := F_ob_room_13.keep K16 (ninS NE4 nin0)
    have A_ke_16 := A_ke_13.keep K16 (ninS (Ne.symm NE1) nin0)
    have A_ro_16 := A_ro_13.keep K16 (ninS (Ne.symm NE2) nin0)
    have Zs16 : n0 ≤ h16.size := Nat.le_trans Zs13 K16.1
    have Kp16 := Kp13.trans K16 (fun x hx => by cases List.mem_singleton.mp hx; exact Or.inl (by simp))
    refine own_st st16 ?_
    show own_Go p e below _ (T16.setTop (mkF m 187 #[.val (.ref ob), .val (.int (2 : Int32)), .val (.ref ro), .val (.ref nu), .val (.int (2 : Int32)), .val (.ref ro), .val (.int (1 : Int32)), .val (.int (2 : Int32)), .val (.int (1 : Int32)), .val (.int (2 : Int32)), .val (.int (2 : Int32)), .val (.int (1 : Int32))] []))
    refine own_ret0 X16 hx hlk Bd.returns (hb hby d5_187) ?_ (by decide) (by decide)
    show Q5 Z ob xn nu ke ro fn fk fr k0 k1 h0 n0 none T16.heap _
    rw [e16]
    exact ⟨rfl, N16, Kp16, (by rw [if_neg hc97]; exact A_nu_16)⟩
theorem pn_0 : plainName "com/example/chainwright/chainwright/KeySortPutPinLaw" = true := by first | (simp [plainName, overriddenIn]; done) | decide +kernel
theorem pd_0_0 : parseMethodDescriptor "(I)V" = some ⟨[.int], none⟩ := by decide +kernel
theorem pd_0_1 : parseMethodDescriptor "(IIJ)V" = some ⟨[.int, .int, .long], none⟩ := by decide +kernel
theorem pd_0_2 : parseMethodDescriptor "(I)I" = some ⟨[.int], some .int⟩ := by decide +kernel
theorem ef_0 (m : MethodId) (x0 : Int32) (x1 : Int64) (x2 : Int64) (x3 : Int64) : entryFrame m #[(.int x0), (.long x1), (.long x2), (.long x3)] maxLocals = mkF m 0 #[.val (.int x0), .val (.long x1), .second, .val (.long x2), .second, .val (.long x3), .second, .unset, .unset, .unset, .unset, .unset, .unset, .unset, .unset, .unset, .unset, .unset, .unset] [] := by first | (simp [entryFrame, mkF, argsToLocals, Value.category, maxLocals]; done) | rfl
def Q0 (Z : State) (fl : Int32) (ka : Int64) (kb : Int64) (kc : Int64) (h0 : Heap) (n0 : Nat) (v : Option Value) (h : Heap) (L : List Loc) : Prop := v = some (.int (1 : Int32)) ∧ Fr n0 L
set_option maxRecDepth 65536 in
set_option maxHeartbeats 40000000 in
theorem rm0 (l : Launch) (Z : State) (a0 : Array Value) (hw : ∀ d ∈ tables_1, d.before a0 Z = true) (ws : List Jvm.Cond) (fl : Int32) (ka : Int64) (kb : Int64) (kc : Int64) (h0 : Heap) (n0 : Nat) (Z0 : n0 ≤ h0.size) :
    MetFree l x (head1 (Jvm.Cond.code x code maxLocals ret :: ws) room_1) (fun a U => a = #[(.int fl), (.long ka), (.long kb), (.long kc)] ∧ Z.Warmed39 U.vm ∧ U.heap = h0) (fun _ _ _ _ _ => True) (fun _ U o U' => ∃ v L, o = .returned v ∧ Q0 Z fl ka kb kc h0 n0 v U'.heap L ∧ FrameEnd U o U' L 16 128) := by
  refine MetFree.of_bodySF (plainFor_of_name pn_0) hisR ?_
  intro p e s m args below meth c s₁ Bd hml0 hP hK
  obtain ⟨rfl, hZ, hh⟩ := hP
  have hx := Bd.exec
  have hby := Bd.bytes
  have hlk : meth.locks = false := BodyLoose.notSynchronized Bd
  have hml : c.maxLocals = 19 := hml0
  have hown : s.vm.findClass "com/example/chainwright/chainwright/KeySortPutPinLaw" = some m.cls := findClass_of_methodNamed Bd.named
  have hnm := (name_of_methodNamed Bd.named Bd.method).1
  have X0 : Stand p l e room_1 s m #[(.int fl), (.long ka), (.long kb), (.long kc)] below meth c s₁ [] 0 0 := Stand.of_body Bd
  have e0 : s₁.heap = h0 := by rw [← hh, Bd.state]; rfl
  have N0 := Fr.nil n0
  show own_Go p e below (own_G s (Q0 Z fl ka kb kc h0 n0) 16 128) (s₁.setTop (entryFrame m #[(.int fl), (.long ka), (.long kb), (.long kc)] maxLocals))
  refine own_st (fun tgt k => castTop (ef_0 m fl ka kb kc) k) ?_
  show own_Go p e below _ (s₁.setTop (mkF m 0 #[.val (.int fl), .val (.long ka), .second, .val (.long kb), .second, .val (.long kc), .second, .unset, .unset, .unset, .unset, .unset, .unset, .unset, .unset, .unset, .unset, .unset, .unset] []))
  obtain ⟨T1, h1, X1, e1, E1, A1, D1, -, st1⟩ := newO X0 hx hZ hown (hw _ (List.mem_of_getElem? (i := 0) rfl)) (hw _ (List.mem_of_getElem? (i := 1) rfl)) (hw _ (List.mem_of_getElem? (i := 2) rfl)) e0 (g := (mkF m 0 #[.val (.int fl), .val (.long ka), .second, .val (.long kb), .second, .val (.long kc), .second, .unset, .unset, .unset, .unset, .unset, .unset, .unset, .unset, .unset, .unset, .unset, .unset] [])) rfl (hb hby at_0) (by decide) (by decide)
  obtain ⟨sv, g1⟩ : ∃ z, z = h0.size := ⟨_, rfl⟩
  rw [← g1] at A1 D1 st1
  have g_sv : n0 ≤ sv := Nat.le_trans Z0 (Nat.le_of_eq g1.symm)
  have Zs1 : n0 ≤ h1.size := Nat.le_trans Z0 E1.1
  have F_sv_numbers_1 : Fld Z h1 sv "com/example/chainwright/chainwright/KeySort" "numbers" "[I" .null := D1 (Or.inr (hw _ (List.mem_of_getElem? (i := 11) rfl))) (ty := (.array .int)) (by decide)
  have F_sv_keys_1 : Fld Z h1 sv "com/example/chainwright/chainwright/KeySort" "keys" "[J" .null := D1 (Or.inr (hw _ (List.mem_of_getElem? (i := 14) rfl))) (ty := (.array .long)) (by decide)
  have F_sv_room_1 : Fld Z h1 sv "com/example/chainwright/chainwright/KeySort" "room" "[I" .null := D1 (Or.inr (hw _ (List.mem_of_getElem? (i := 16) rfl))) (ty := (.array .int)) (by decide)
  refine own_st st1 ?_
  show own_Go p e below _ (T1.setTop (mkF m 3 #[.val (.int fl), .val (.long ka), .second, .val (.long kb), .second, .val (.long kc), .second, .unset, .unset, .unset, .unset, .unset, .unset, .unset, .unset, .unset, .unset, .unset, .unset] [(.ref sv)]))
  refine own_st (V := T1.setTop (mkF m 5 #[.val (.int fl), .val (.long ka), .second, .val (.long kb), .second, .val (.long kc), .second, .unset, .unset, .unset, .unset, .unset, .unset, .unset, .unset, .unset, .unset, .unset, .unset] [(.int (2 : Int32)), (.ref sv), (.ref sv)])) (fun tgt k => ?_) ?_
  · show Steps p.tables e below (T1.setTop (mkF m 3 #[.val (.int fl), .val (.long ka), .second, .val (.long kb), .second, .val (.long kc), .second, .unset, .unset, .unset, .unset, .unset, .unset, .unset, .unset, .unset, .unset, .unset, .unset] [(.ref sv)])) tgt
    refine XS.dup X1.here hx rfl (hb hby at_3) rfl rfl ?_
    show Steps p.tables e below (T1.setTop (mkF m 4 #[.val (.int fl), .val (.long ka), .second, .val (.long kb), .second, .val (.long kc), .second, .unset, .unset, .unset, .unset, .unset, .unset, .unset, .unset, .unset, .unset, .unset, .unset] [(.ref sv), (.ref sv)])) tgt
    refine XS.iconst X1.here hx rfl (hb hby at_4) ?_
    exact k
  obtain ⟨v2, _, ⟨T2, L2, k2, n2⟩, -, Xc2, ⟨Lc2, hQ2, l2, y2, z2⟩, st2⟩ := X1.specialBack hx (y := (⟨"com/example/chainwright/chainwright/KeySort", "<init>", "(I)V"⟩ : MethodName)) rfl hown (mvT hZ (hw _ (List.mem_of_getElem? (i := 3) rfl))) (mvT hZ (hw _ (List.mem_of_getElem? (i := 4) rfl))) (mvT hZ (hw _ (List.mem_of_getElem? (i := 5) rfl))) (by decide) (backOf (W := 1) (rm1 l Z a0 hw [] sv (2 : Int32) h1 n0 Zs1 A1 F_sv_numbers_1 F_sv_keys_1 F_sv_room_1 g_sv (by decide)) hZ (hw _ (List.mem_of_getElem? (i := 5) rfl)) (hw _ (List.mem_of_getElem? (i := 2) rfl)) (by decide) (by decide)) (g := (mkF m 5 #[.val (.int fl), .val (.long ka), .second, .val (.long kb), .second, .val (.long kc), .second, .unset, .unset, .unset, .unset, .unset, .unset, .unset, .unset, .unset, .unset, .unset, .unset] [(.int (2 : Int32)), (.ref sv), (.ref sv)])) rfl (by rw [hml]; rfl) (Steps.refl _) (a := sv) (argsL := [(.int (2 : Int32))]) (rest := [(.ref sv)]) (lenOf pd_0_0 rfl) rfl (by show 2 * 0 + _ ≤ _; exact Nat.le_of_eq rfl) (hb hby at_5) (fun _ _ => ⟨rfl, e1, (by decide : 1 + 3 ≤ _), (by decide : 3 + 6 ≤ _)⟩)
  dsimp only [Pt.U, Pt.locs, Pt.cells, Pt.slots] at Xc2 l2 y2 z2 st2 hQ2
  have X2 := own_cast Xc2 l2 y2 z2
  obtain ⟨ev2, N2q, K2, nu_2, ke_2, ro_2, g2_0, g2_1, g2_2, g2_3, g2_4, g2_5, g2_6, g2_7, g2_8, g2_9, g2_10, g2_11, g2_12, g2_13, g2_14, g2_15⟩ := hQ2
  rw [ev2] at st2
  have N2 := Fr.app N0 N2q
  have ne_sv_nu_2 : sv ≠ nu_2 := Nat.ne_of_lt (Nat.lt_of_lt_of_le A1.lt g2_0)
  have ne_sv_ke_2 : sv ≠ ke_2 := Nat.ne_of_lt (Nat.lt_of_lt_of_le A1.lt g2_1)
  have ne_sv_ro_2 : sv ≠ ro_2 := Nat.ne_of_lt (Nat.lt_of_lt_of_le A1.lt g2_2)
  have E_sv_2 := A1.keep K2
  have Zs2 : n0 ≤ T2.heap.size := Nat.le_trans Zs1 K2.1
  refine own_st (fun tgt k => st2.trans k) ?_
  show own_Go p e below _ (T2.setTop (mkF m 8 #[.val (.int fl), .val (.long ka), .second, .val (.long kb), .second, .val (.long kc), .second, .unset, .unset, .unset, .unset, .unset, .unset, .unset, .unset, .unset, .unset, .unset, .unset] [(.ref sv)]))
  refine own_st (V := T2.setTop (mkF m 15 #[.val (.int fl), .val (.long ka), .second, .val (.long kb), .second, .val (.long kc), .second, .val (.ref sv), .val (.int (fl &&& (1 : Int32))), .unset, .unset, .unset, .unset, .unset, .unset, .unset, .unset, .unset, .unset] [])) (fun tgt k => ?_) ?_
  · show Steps p.tables e below (T2.setTop (mkF m 8 #[.val (.int fl), .val (.long ka), .second, .val (.long kb), .second, .val (.long kc), .second, .unset, .unset, .unset, .unset, .unset, .unset, .unset, .unset, .unset, .unset, .unset, .unset] [(.ref sv)])) tgt
    refine XS.astore X2.here hx rfl (hb hby at_8) rfl rfl (l' := #[.val (.int fl), .val (.long ka), .second, .val (.long kb), .second, .val (.long kc), .second, .val (.ref sv), .unset, .unset, .unset, .unset, .unset, .unset, .unset, .unset, .unset, .unset, .unset]) rfl ?_
    show Steps p.tables e below (T2.setTop (mkF m 10 #[.val (.int fl), .val (.long ka), .second, .val (.long kb), .second, .val (.long kc), .second, .val (.ref sv), .unset, .unset, .unset, .unset, .unset, .unset, .unset, .unset, .unset, .unset, .unset] [])) tgt
    refine XS.iloadN X2.here hx rfl (hb hby at_10) rfl ?_
    show Steps p.tables e below (T2.setTop (mkF m 11 #[.val (.int fl), .val (.long ka), .second, .val (.long kb), .second, .val (.long kc), .second, .val (.ref sv), .unset, .unset, .unset, .unset, .unset, .unset, .unset, .unset, .unset, .unset, .unset] [(.int fl)])) tgt
    refine XS.iconst X2.here hx rfl (hb hby at_11) ?_
    show Steps p.tables e below (T2.setTop (mkF m 12 #[.val (.int fl), .val (.long ka), .second, .val (.long kb), .second, .val (.long kc), .second, .val (.ref sv), .unset, .unset, .unset, .unset, .unset, .unset, .unset, .unset, .unset, .unset, .unset] [(.int (1 : Int32)), (.int fl)])) tgt
    refine XS.iand X2.here hx rfl (hb hby at_12) rfl ?_
    show Steps p.tables e below (T2.setTop (mkF m 13 #[.val (.int fl), .val (.long ka), .second, .val (.long kb), .second, .val (.long kc), .second, .val (.ref sv), .unset, .unset, .unset, .unset, .unset, .unset, .unset, .unset, .unset, .unset, .unset] [(.int (fl &&& (1 : Int32)))])) tgt
    refine XS.istore X2.here hx rfl (hb hby at_13) rfl (l' := #[.val (.int fl), .val (.long ka), .second, .val (.long kb), .second, .val (.long kc), .second, .val (.ref sv), .val (.int (fl &&& (1 : Int32))), .unset, .unset, .unset, .unset, .unset, .unset, .unset, .unset, .unset, .unset]) rfl ?_
    exact k
  rcases own_m2 fl with q | q
  · skip
    rw [show (fl &&& (1 : Int32)) = (0 : Int32) from q]
    refine own_st (V := T2.setTop (mkF m 19 #[.val (.int fl), .val (.long ka), .second, .val (.long kb), .second, .val (.long kc), .second, .val (.ref sv), .val (.int (0 : Int32)), .unset, .unset, .unset, .unset, .unset, .unset, .unset, .unset, .unset, .unset] [(.int ((1 : Int32) - (0 : Int32)))])) (fun tgt k => ?_) ?_
    · show Steps p.tables e below (T2.setTop (mkF m 15 #[.val (.int fl), .val (.long ka), .second, .val (.long kb), .second, .val (.long kc), .second, .val (.ref sv), .val (.int (0 : Int32)), .unset, .unset, .unset, .unset, .unset, .unset, .unset, .unset, .unset, .unset] [])) tgt
      refine XS.iconst X2.here hx rfl (hb hby at_15) ?_
      show Steps p.tables e below (T2.setTop (mkF m 16 #[.val (.int fl), .val (.long ka), .second, .val (.long kb), .second, .val (.long kc), .second, .val (.ref sv), .val (.int (0 : Int32)), .unset, .unset, .unset, .unset, .unset, .unset, .unset, .unset, .unset, .unset] [(.int (1 : Int32))])) tgt
      refine XS.iload X2.here hx rfl (hb hby at_16) rfl ?_
      show Steps p.tables e below (T2.setTop (mkF m 18 #[.val (.int fl), .val (.long ka), .second, .val (.long kb), .second, .val (.long kc), .second, .val (.ref sv), .val (.int (0 : Int32)), .unset, .unset, .unset, .unset, .unset, .unset, .unset, .unset, .unset, .unset] [(.int (0 : Int32)), (.int (1 : Int32))])) tgt
      refine XS.isub X2.here hx rfl (hb hby at_18) rfl ?_
      exact k
    rw [show ((1 : Int32) - (0 : Int32)) = (1 : Int32) from by decide]
    refine own_st (V := T2.setTop (mkF m 24 #[.val (.int fl), .val (.long ka), .second, .val (.long kb), .second, .val (.long kc), .second, .val (.ref sv), .val (.int (0 : Int32)), .val (.int (1 : Int32)), .unset, .unset, .unset, .unset, .unset, .unset, .unset, .unset, .unset] [(.int (fl &&& (2 : Int32)))])) (fun tgt k => ?_) ?_
    · show Steps p.tables e below (T2.setTop (mkF m 19 #[.val (.int fl), .val (.long ka), .second, .val (.long kb), .second, .val (.long kc), .second, .val (.ref sv), .val (.int (0 : Int32)), .unset, .unset, .unset, .unset, .unset, .unset, .unset, .unset, .unset, .unset] [(.int (1 : Int32))])) tgt
      refine XS.istore X2.here hx rfl (hb hby at_19) rfl (l' := #[.val (.int fl), .val (.long ka), .second, .val (.long kb), .second, .val (.long kc), .second, .val (.ref sv), .val (.int (0 : Int32)), .val (.int (1 : Int32)), .unset, .unset, .unset, .unset, .unset, .unset, .unset, .unset, .unset]) rfl ?_
      show Steps p.tables e below (T2.setTop (mkF m 21 #[.val (.int fl), .val (.long ka), .second, .val (.long kb), .second, .val (.long kc), .second, .val (.ref sv), .val (.int (0 : Int32)), .val (.int (1 : Int32)), .unset, .unset, .unset, .unset, .unset, .unset, .unset, .unset, .unset] [])) tgt
      refine XS.iloadN X2.here hx rfl (hb hby at_21) rfl ?_
      show Steps p.tables e below (T2.setTop (mkF m 22 #[.val (.int fl), .val (.long ka), .second, .val (.long kb), .second, .val (.long kc), .second, .val (.ref sv), .val (.int (0 : Int32)), .val (.int (1 : Int32)), .unset, .unset, .unset, .unset, .unset, .unset, .unset, .unset, .unset] [(.int fl)])) tgt
      refine XS.iconst X2.here hx rfl (hb hby at_22) ?_
      show Steps p.tables e below (T2.setTop (mkF m 23 #[.val (.int fl), .val (.long ka), .second, .val (.long kb), .second, .val (.long kc), .second, .val (.ref sv), .val (.int (0 : Int32)), .val (.int (1 : Int32)), .unset, .unset, .unset, .unset, .unset, .unset, .unset, .unset, .unset] [(.int (2 : Int32)), (.int fl)])) tgt
      refine XS.iand X2.here hx rfl (hb hby at_23) rfl ?_
      exact k
    by_cases hc24 : (fl &&& (2 : Int32)) = (0 : Int32)
    · skip
      refine own_st (V := T2.setTop (mkF m 40 #[.val (.int fl), .val (.long ka), .second, .val (.long kb), .second, .val (.long kc), .second, .val (.ref sv), .val (.int (0 : Int32)), .val (.int (1 : Int32)), .val (.int (0 : Int32)), .unset, .unset, .unset, .unset, .unset, .unset, .unset, .unset] [(.long ka), (.int (0 : Int32)), (.int (0 : Int32)), (.ref sv)])) (fun tgt k => ?_) ?_
      · show Steps p.tables e below (T2.setTop (mkF m 24 #[.val (.int fl), .val (.long ka), .second, .val (.long kb), .second, .val (.long kc), .second, .val (.ref sv), .val (.int (0 : Int32)), .val (.int (1 : Int32)), .unset, .unset, .unset, .unset, .unset, .unset, .unset, .unset, .unset] [(.int (fl &&& (2 : Int32)))])) tgt
        refine XS.ifYes X2.here hx rfl (pc0 := 24) (pc' := 31) rfl (hb hby at_24) rfl ((if0 _ _).trans (teq hc24).1) (by decide) (by decide) ?_
        show Steps p.tables e below (T2.setTop (mkF m 31 #[.val (.int fl), .val (.long ka), .second, .val (.long kb), .second, .val (.long kc), .second, .val (.ref sv), .val (.int (0 : Int32)), .val (.int (1 : Int32)), .unset, .unset, .unset, .unset, .unset, .unset, .unset, .unset, .unset] [])) tgt
        refine XS.iconst X2.here hx rfl (hb hby at_31) ?_
        show Steps p.tables e below (T2.setTop (mkF m 32 #[.val (.int fl), .val (.long ka), .second, .val (.long kb), .second, .val (.long kc), .second, .val (.ref sv), .val (.int (0 : Int32)), .val (.int (1 : Int32)), .unset, .unset, .unset, .unset, .unset, .unset, .unset, .unset, .unset] [(.int (0 : Int32))])) tgt
        refine XS.istore X2.here hx rfl (hb hby at_32) rfl (l' := #[.val (.int fl), .val (.long ka), .second, .val (.long kb), .second, .val (.long kc), .second, .val (.ref sv), .val (.int (0 : Int32)), .val (.int (1 : Int32)), .val (.int (0 : Int32)), .unset, .unset, .unset, .unset, .unset, .unset, .unset, .unset]) rfl ?_
        show Steps p.tables e below (T2.setTop (mkF m 34 #[.val (.int fl), .val (.long ka), .second, .val (.long kb), .second, .val (.long kc), .second, .val (.ref sv), .val (.int (0 : Int32)), .val (.int (1 : Int32)), .val (.int (0 : Int32)), .unset, .unset, .unset, .unset, .unset, .unset, .unset, .unset] [])) tgt
        refine XS.aload X2.here hx rfl (hb hby at_34) rfl rfl ?_
        show Steps p.tables e below (T2.setTop (mkF m 36 #[.val (.int fl), .val (.long ka), .second, .val (.long kb), .second, .val (.long kc), .second, .val (.ref sv), .val (.int (0 : Int32)), .val (.int (1 : Int32)), .val (.int (0 : Int32)), .unset, .unset, .unset, .unset, .unset, .unset, .unset, .unset] [(.ref sv)])) tgt
        refine XS.iconst X2.here hx rfl (hb hby at_36) ?_
        show Steps p.tables e below (T2.setTop (mkF m 37 #[.val (.int fl), .val (.long ka), .second, .val (.long kb), .second, .val (.long kc), .second, .val (.ref sv), .val (.int (0 : Int32)), .val (.int (1 : Int32)), .val (.int (0 : Int32)), .unset, .unset, .unset, .unset, .unset, .unset, .unset, .unset] [(.int (0 : Int32)), (.ref sv)])) tgt
        refine XS.iload X2.here hx rfl (hb hby at_37) rfl ?_
        show Steps p.tables e below (T2.setTop (mkF m 39 #[.val (.int fl), .val (.long ka), .second, .val (.long kb), .second, .val (.long kc), .second, .val (.ref sv), .val (.int (0 : Int32)), .val (.int (1 : Int32)), .val (.int (0 : Int32)), .unset, .unset, .unset, .unset, .unset, .unset, .unset, .unset] [(.int (0 : Int32)), (.int (0 : Int32)), (.ref sv)])) tgt
        refine XS.lloadN X2.here hx rfl (hb hby at_39) rfl ?_
        exact k
      obtain ⟨cq3, kq3, q3a, q3b, q3c⟩ := isOf hZ rfl g2_9
      obtain ⟨v3, _, ⟨T3, L3, k3, n3⟩, -, Xc3, ⟨Lc3, hQ3, l3, y3, z3⟩, st3⟩ := X2.virtualBack hx (y := (⟨"com/example/chainwright/chainwright/KeySort", "put", "(IIJ)V"⟩ : MethodName)) (z := (⟨"com/example/chainwright/chainwright/KeySort", "put", "(IIJ)V"⟩ : MethodName)) hown (mvT hZ (hw _ (List.mem_of_getElem? (i := 17) rfl))) (mvT hZ (hw _ (List.mem_of_getElem? (i := 18) rfl))) (notFace_of_selects (args := #[]) (mvT hZ (hw _ (List.mem_of_getElem? (i := 20) rfl)))) (mvT hZ (hw _ (List.mem_of_getElem? (i := 20) rfl))) (mvT hZ (hw _ (List.mem_of_getElem? (i := 19) rfl))) (by decide) (backOf (W := 0) (rm3 l Z a0 hw [] sv (0 : Int32) (0 : Int32) ka nu_2 ke_2 (fun _ => 0) (fun _ => 0) 0 0 T2.heap n0 Zs2 g2_10 g2_11 g2_13 g2_14 g2_3 g2_4 g2_6 ne_sv_nu_2 ne_sv_ke_2 (by decide) (by decide) (by decide) (by decide)) hZ (hw _ (List.mem_of_getElem? (i := 21) rfl)) (hw _ (List.mem_of_getElem? (i := 2) rfl)) (by decide) (by decide)) q3a q3c (g := (mkF m 40 #[.val (.int fl), .val (.long ka), .second, .val (.long kb), .second, .val (.long kc), .second, .val (.ref sv), .val (.int (0 : Int32)), .val (.int (1 : Int32)), .val (.int (0 : Int32)), .unset, .unset, .unset, .unset, .unset, .unset, .unset, .unset] [(.long ka), (.int (0 : Int32)), (.int (0 : Int32)), (.ref sv)])) rfl (by rw [hml]; rfl) (Steps.refl _) (argsL := [(.int (0 : Int32)), (.int (0 : Int32)), (.long ka)]) (rest := []) (lenOf pd_0_1 rfl) rfl (by show 2 * 0 + _ ≤ _; exact Nat.le_of_eq rfl) (hb hby at_40) (fun _ _ => ⟨rfl, rfl, (by decide : 4 + 0 ≤ _), (by decide : 9 + 0 ≤ _)⟩)
      dsimp only [Pt.U, Pt.locs, Pt.cells, Pt.slots] at Xc3 l3 y3 z3 st3 hQ3
      have X3 := own_cast Xc3 l3 y3 z3
      obtain ⟨ev3, N3q, K3, g3_0, g3_1⟩ := hQ3
      rw [ev3] at st3
      have N3 := Fr.app N2 N3q
      have E_sv_3 := g2_9.keep K3
      have F_sv_numbers_3 := g2_10.keep K3 (ninS ne_sv_nu_2 (ninS ne_sv_ke_2 nin0))
      have F_sv_keys_3 := g2_11.keep K3 (ninS ne_sv_nu_2 (ninS ne_sv_ke_2 nin0))
      have F_sv_room_3 := g2_12.keep K3 (ninS ne_sv_nu_2 (ninS ne_sv_ke_2 nin0))
      have A_ro_2_3 := g2_15.keep K3 (ninS (Ne.symm g2_7) (ninS (Ne.symm g2_8) nin0))
      have Zs3 : n0 ≤ T3.heap.size := Nat.le_trans Zs2 K3.1
      refine own_st (fun tgt k => st3.trans k) ?_
      show own_Go p e below _ (T3.setTop (mkF m 43 #[.val (.int fl), .val (.long ka), .second, .val (.long kb), .second, .val (.long kc), .second, .val (.ref sv), .val (.int (0 : Int32)), .val (.int (1 : Int32)), .val (.int (0 : Int32)), .unset, .unset, .unset, .unset, .unset, .unset, .unset, .unset] []))
      refine own_st (V := T3.setTop (mkF m 49 #[.val (.int fl), .val (.long ka), .second, .val (.long kb), .second, .val (.long kc), .second, .val (.ref sv), .val (.int (0 : Int32)), .val (.int (1 : Int32)), .val (.int (0 : Int32)), .unset, .unset, .unset, .unset, .unset, .unset, .unset, .unset] [(.long kb), (.int (1 : Int32)), (.int (1 : Int32)), (.ref sv)])) (fun tgt k => ?_) ?_
      · show Steps p.tables e below (T3.setTop (mkF m 43 #[.val (.int fl), .val (.long ka), .second, .val (.long kb), .second, .val (.long kc), .second, .val (.ref sv), .val (.int (0 : Int32)), .val (.int (1 : Int32)), .val (.int (0 : Int32)), .unset, .unset, .unset, .unset, .unset, .unset, .unset, .unset] [])) tgt
        refine XS.aload X3.here hx rfl (hb hby at_43) rfl rfl ?_
        show Steps p.tables e below (T3.setTop (mkF m 45 #[.val (.int fl), .val (.long ka), .second, .val (.long kb), .second, .val (.long kc), .second, .val (.ref sv), .val (.int (0 : Int32)), .val (.int (1 : Int32)), .val (.int (0 : Int32)), .unset, .unset, .unset, .unset, .unset, .unset, .unset, .unset] [(.ref sv)])) tgt
        refine XS.iconst X3.here hx rfl (hb hby at_45) ?_
        show Steps p.tables e below (T3.setTop (mkF m 46 #[.val (.int fl), .val (.long ka), .second, .val (.long kb), .second, .val (.long kc), .second, .val (.ref sv), .val (.int (0 : Int32)), .val (.int (1 : Int32)), .val (.int (0 : Int32)), .unset, .unset, .unset, .unset, .unset, .unset, .unset, .unset] [(.int (1 : Int32)), (.ref sv)])) tgt
        refine XS.iload X3.here hx rfl (hb hby at_46) rfl ?_
        show Steps p.tables e below (T3.setTop (mkF m 48 #[.val (.int fl), .val (.long ka), .second, .val (.long kb), .second, .val (.long kc), .second, .val (.ref sv), .val (.int (0 : Int32)), .val (.int (1 : Int32)), .val (.int (0 : Int32)), .unset, .unset, .unset, .unset, .unset, .unset, .unset, .unset] [(.int (1 : Int32)), (.int (1 : Int32)), (.ref sv)])) tgt
        refine XS.lloadN X3.here hx rfl (hb hby at_48) rfl ?_
        exact k
      obtain ⟨cq4, kq4, q4a, q4b, q4c⟩ := isOf hZ rfl E_sv_3
      obtain ⟨v4, _, ⟨T4, L4, k4, n4⟩, -, Xc4, ⟨Lc4, hQ4, l4, y4, z4⟩, st4⟩ := X3.virtualBack hx (y := (⟨"com/example/chainwright/chainwright/KeySort", "put", "(IIJ)V"⟩ : MethodName)) (z := (⟨"com/example/chainwright/chainwright/KeySort", "put", "(IIJ)V"⟩ : MethodName)) hown (mvT hZ (hw _ (List.mem_of_getElem? (i := 17) rfl))) (mvT hZ (hw _ (List.mem_of_getElem? (i := 18) rfl))) (notFace_of_selects (args := #[]) (mvT hZ (hw _ (List.mem_of_getElem? (i := 20) rfl)))) (mvT hZ (hw _ (List.mem_of_getElem? (i := 20) rfl))) (mvT hZ (hw _ (List.mem_of_getElem? (i := 19) rfl))) (by decide) (backOf (W := 0) (rm3 l Z a0 hw [] sv (1 : Int32) (1 : Int32) kb nu_2 ke_2 (own_up (fun _ => 0) 0 (0 : Int32)) (own_upJ (fun _ => 0) 0 ka) 1 1 T3.heap n0 Zs3 F_sv_numbers_3 F_sv_keys_3 g3_0 g3_1 g2_3 g2_4 g2_6 ne_sv_nu_2 ne_sv_ke_2 (by decide) (by decide) (by decide) (by decide)) hZ (hw _ (List.mem_of_getElem? (i := 21) rfl)) (hw _ (List.mem_of_getElem? (i := 2) rfl)) (by decide) (by decide)) q4a q4c (g := (mkF m 49 #[.val (.int fl), .val (.long ka), .second, .val (.long kb), .second, .val (.long kc), .second, .val (.ref sv), .val (.int (0 : Int32)), .val (.int (1 : Int32)), .val (.int (0 : Int32)), .unset, .unset, .unset, .unset, .unset, .unset, .unset, .unset] [(.long kb), (.int (1 : Int32)), (.int (1 : Int32)), (.ref sv)])) rfl (by rw [hml]; rfl) (Steps.refl _) (argsL := [(.int (1 : Int32)), (.int (1 : Int32)), (.long kb)]) (rest := []) (lenOf pd_0_1 rfl) rfl (by show 2 * 0 + _ ≤ _; exact Nat.le_of_eq rfl) (hb hby at_49) (fun _ _ => ⟨rfl, rfl, (by decide : 4 + 0 ≤ _), (by decide : 9 + 0 ≤ _)⟩)
      dsimp only [Pt.U, Pt.locs, Pt.cells, Pt.slots] at Xc4 l4 y4 z4 st4 hQ4
      have X4 := own_cast Xc4 l4 y4 z4
      obtain ⟨ev4, N4q, K4, g4_0, g4_1⟩ := hQ4
      rw [ev4] at st4
      have N4 := Fr.app N3 N4q
      have E_sv_4 := E_sv_3.keep K4
      have F_sv_numbers_4 := F_sv_numbers_3.keep K4 (ninS ne_sv_nu_2 (ninS ne_sv_ke_2 nin0))
      have F_sv_keys_4 := F_sv_keys_3.keep K4 (ninS ne_sv_nu_2 (ninS ne_sv_ke_2 nin0))
      have F_sv_room_4 := F_sv_room_3.keep K4 (ninS ne_sv_nu_2 (ninS ne_sv_ke_2 nin0))
      have A_ro_2_4 := A_ro_2_3.keep K4 (ninS (Ne.symm g2_7) (ninS (Ne.symm g2_8) nin0))
      have Zs4 : n0 ≤ T4.heap.size := Nat.le_trans Zs3 K4.1
      refine own_st (fun tgt k => st4.trans k) ?_
      show own_Go p e below _ (T4.setTop (mkF m 52 #[.val (.int fl), .val (.long ka), .second, .val (.long kb), .second, .val (.long kc), .second, .val (.ref sv), .val (.int (0 : Int32)), .val (.int (1 : Int32)), .val (.int (0 : Int32)), .unset, .unset, .unset, .unset, .unset, .unset, .unset, .unset] []))
      refine own_st (V := T4.setTop (mkF m 77 #[.val (.int fl), .val (.long ka), .second, .val (.long kb), .second, .val (.long kc), .second, .val (.ref sv), .val (.int (0 : Int32)), .val (.int (1 : Int32)), .val (.int (0 : Int32)), .val (.long ka), .second, .unset, .unset, .unset, .unset, .unset, .unset] [(.int (0 : Int32)), (.ref sv)])) (fun tgt k => ?_) ?_
      · show Steps p.tables e below (T4.setTop (mkF m 52 #[.val (.int fl), .val (.long ka), .second, .val (.long kb), .second, .val (.long kc), .second, .val (.ref sv), .val (.int (0 : Int32)), .val (.int (1 : Int32)), .val (.int (0 : Int32)), .unset, .unset, .unset, .unset, .unset, .unset, .unset, .unset] [])) tgt
        refine XS.lloadN X4.here hx rfl (hb hby at_52) rfl ?_
        show Steps p.tables e below (T4.setTop (mkF m 53 #[.val (.int fl), .val (.long ka), .second, .val (.long kb), .second, .val (.long kc), .second, .val (.ref sv), .val (.int (0 : Int32)), .val (.int (1 : Int32)), .val (.int (0 : Int32)), .unset, .unset, .unset, .unset, .unset, .unset, .unset, .unset] [(.long ka)])) tgt
        refine XS.lstore X4.here hx rfl (hb hby at_53) rfl (l' := #[.val (.int fl), .val (.long ka), .second, .val (.long kb), .second, .val (.long kc), .second, .val (.ref sv), .val (.int (0 : Int32)), .val (.int (1 : Int32)), .val (.int (0 : Int32)), .val (.long ka), .second, .unset, .unset, .unset, .unset, .unset, .unset]) rfl ?_
        show Steps p.tables e below (T4.setTop (mkF m 55 #[.val (.int fl), .val (.long ka), .second, .val (.long kb), .second, .val (.long kc), .second, .val (.ref sv), .val (.int (0 : Int32)), .val (.int (1 : Int32)), .val (.int (0 : Int32)), .val (.long ka), .second, .unset, .unset, .unset, .unset, .unset, .unset] [])) tgt
        refine XS.iload X4.here hx rfl (hb hby at_55) rfl ?_
        show Steps p.tables e below (T4.setTop (mkF m 57 #[.val (.int fl), .val (.long ka), .second, .val (.long kb), .second, .val (.long kc), .second, .val (.ref sv), .val (.int (0 : Int32)), .val (.int (1 : Int32)), .val (.int (0 : Int32)), .val (.long ka), .second, .unset, .unset, .unset, .unset, .unset, .unset] [(.int (0 : Int32))])) tgt
        refine XS.ifYes X4.here hx rfl (pc0 := 57) (pc' := 74) rfl (hb hby at_57) rfl ((if0 _ _).trans (teq (by decide : (0 : Int32) = (0 : Int32))).1) (by decide) (by decide) ?_
        show Steps p.tables e below (T4.setTop (mkF m 74 #[.val (.int fl), .val (.long ka), .second, .val (.long kb), .second, .val (.long kc), .second, .val (.ref sv), .val (.int (0 : Int32)), .val (.int (1 : Int32)), .val (.int (0 : Int32)), .val (.long ka), .second, .unset, .unset, .unset, .unset, .unset, .unset] [])) tgt
        refine XS.aload X4.here hx rfl (hb hby at_74) rfl rfl ?_
        show Steps p.tables e below (T4.setTop (mkF m 76 #[.val (.int fl), .val (.long ka), .second, .val (.long kb), .second, .val (.long kc), .second, .val (.ref sv), .val (.int (0 : Int32)), .val (.int (1 : Int32)), .val (.int (0 : Int32)), .val (.long ka), .second, .unset, .unset, .unset, .unset, .unset, .unset] [(.ref sv)])) tgt
        refine XS.iconst X4.here hx rfl (hb hby at_76) ?_
        exact k
      obtain ⟨cq5, kq5, q5a, q5b, q5c⟩ := isOf hZ rfl E_sv_4
      obtain ⟨v5, _, ⟨T5, L5, k5, n5⟩, -, Xc5, ⟨Lc5, hQ5, l5, y5, z5⟩, st5⟩ := X4.virtualBack hx (y := (⟨"com/example/chainwright/chainwright/KeySort", "number", "(I)I"⟩ : MethodName)) (z := (⟨"com/example/chainwright/chainwright/KeySort", "number", "(I)I"⟩ : MethodName)) hown (mvT hZ (hw _ (List.mem_of_getElem? (i := 22) rfl))) (mvT hZ (hw _ (List.mem_of_getElem? (i := 23) rfl))) (notFace_of_selects (args := #[]) (mvT hZ (hw _ (List.mem_of_getElem? (i := 25) rfl)))) (mvT hZ (hw _ (List.mem_of_getElem? (i := 25) rfl))) (mvT hZ (hw _ (List.mem_of_getElem? (i := 24) rfl))) (by decide) (backOf (W := 0) (rm4 l Z a0 hw [] sv (0 : Int32) nu_2 (own_up (own_up (fun _ => 0) 0 (0 : Int32)) 1 (1 : Int32)) 0 T4.heap n0 Zs4 F_sv_numbers_4 g4_0 (by decide) (by decide)) hZ (hw _ (List.mem_of_getElem? (i := 26) rfl)) (hw _ (List.mem_of_getElem? (i := 2) rfl)) (by decide) (by decide)) q5a q5c (g := (mkF m 77 #[.val (.int fl), .val (.long ka), .second, .val (.long kb), .second, .val (.long kc), .second, .val (.ref sv), .val (.int (0 : Int32)), .val (.int (1 : Int32)), .val (.int (0 : Int32)), .val (.long ka), .second, .unset, .unset, .unset, .unset, .unset, .unset] [(.int (0 : Int32)), (.ref sv)])) rfl (by rw [hml]; rfl) (Steps.refl _) (argsL := [(.int (0 : Int32))]) (rest := []) (lenOf pd_0_2 rfl) rfl (by show 2 * 0 + _ ≤ _; exact Nat.le_of_eq rfl) (hb hby at_77) (fun _ _ => ⟨rfl, rfl, (by decide : 4 + 0 ≤ _), (by decide : 9 + 0 ≤ _)⟩)
      dsimp only [Pt.U, Pt.locs, Pt.cells, Pt.slots] at Xc5 l5 y5 z5 st5 hQ5
      have X5 := own_cast Xc5 l5 y5 z5
      obtain ⟨ev5, N5q, K5⟩ := hQ5
      rw [ev5] at st5
      have N5 := Fr.app N4 N5q
      refine own_st (fun tgt k => st5.trans k) ?_
      show own_Go p e below _ (T5.setTop (mkF m 80 #[.val (.int fl), .val (.long ka), .second, .val (.long kb), .second, .val (.long kc), .second, .val (.ref sv), .val (.int (0 : Int32)), .val (.int (1 : Int32)), .val (.int (0 : Int32)), .val (.long ka), .second, .unset, .unset, .unset, .unset, .unset, .unset] [(.int ((own_up (own_up (fun _ => 0) 0 (0 : Int32)) 1 (1 : Int32)) 0))]))
      refine own_st (V := T5.setTop (mkF m 88 #[.val (.int fl), .val (.long ka), .second, .val (.long kb), .second, .val (.long kc), .second, .val (.ref sv), .val (.int (0 : Int32)), .val (.int (1 : Int32)), .val (.int (0 : Int32)), .val (.long ka), .second, .unset, .unset, .unset, .unset, .unset, .unset] [(.int (1 : Int32)), (.ref sv)])) (fun tgt k => ?_) ?_
      · show Steps p.tables e below (T5.setTop (mkF m 80 #[.val (.int fl), .val (.long ka), .second, .val (.long kb), .second, .val (.long kc), .second, .val (.ref sv), .val (.int (0 : Int32)), .val (.int (1 : Int32)), .val (.int (0 : Int32)), .val (.long ka), .second, .unset, .unset, .unset, .unset, .unset, .unset] [(.int ((own_up (own_up (fun _ => 0) 0 (0 : Int32)) 1 (1 : Int32)) 0))])) tgt
        refine XS.iload X5.here hx rfl (hb hby at_80) rfl ?_
        show Steps p.tables e below (T5.setTop (mkF m 82 #[.val (.int fl), .val (.long ka), .second, .val (.long kb), .second, .val (.long kc), .second, .val (.ref sv), .val (.int (0 : Int32)), .val (.int (1 : Int32)), .val (.int (0 : Int32)), .val (.long ka), .second, .unset, .unset, .unset, .unset, .unset, .unset] [(.int (0 : Int32)), (.int ((own_up (own_up (fun _ => 0) 0 (0 : Int32)) 1 (1 : Int32)) 0))])) tgt
        refine XS.icmpNo X5.here hx rfl (hb hby at_82) rfl (teq (by decide)).2 ?_
        show Steps p.tables e below (T5.setTop (mkF m 85 #[.val (.int fl), .val (.long ka), .second, .val (.long kb), .second, .val (.long kc), .second, .val (.ref sv), .val (.int (0 : Int32)), .val (.int (1 : Int32)), .val (.int (0 : Int32)), .val (.long ka), .second, .unset, .unset, .unset, .unset, .unset, .unset] [])) tgt
        refine XS.aload X5.here hx rfl (hb hby at_85) rfl rfl ?_
        show Steps p.tables e below (T5.setTop (mkF m 87 #[.val (.int fl), .val (.long ka), .second, .val (.long kb), .second, .val (.long kc), .second, .val (.ref sv), .val (.int (0 : Int32)), .val (.int (1 : Int32)), .val (.int (0 : Int32)), .val (.long ka), .second, .unset, .unset, .unset, .unset, .unset, .unset] [(.ref sv)])) tgt
        refine XS.iconst X5.here hx rfl (hb hby at_87) ?_
        exact k
      obtain ⟨cq6, kq6, q6a, q6b, q6c⟩ := isOf hZ K5 E_sv_4
      obtain ⟨v6, _, ⟨T6, L6, k6, n6⟩, -, Xc6, ⟨Lc6, hQ6, l6, y6, z6⟩, st6⟩ := X5.virtualBack hx (y := (⟨"com/example/chainwright/chainwright/KeySort", "number", "(I)I"⟩ : MethodName)) (z := (⟨"com/example/chainwright/chainwright/KeySort", "number", "(I)I"⟩ : MethodName)) hown (mvT hZ (hw _ (List.mem_of_getElem? (i := 22) rfl))) (mvT hZ (hw _ (List.mem_of_getElem? (i := 23) rfl))) (notFace_of_selects (args := #[]) (mvT hZ (hw _ (List.mem_of_getElem? (i := 25) rfl)))) (mvT hZ (hw _ (List.mem_of_getElem? (i := 25) rfl))) (mvT hZ (hw _ (List.mem_of_getElem? (i := 24) rfl))) (by decide) (backOf (W := 0) (rm4 l Z a0 hw [] sv (1 : Int32) nu_2 (own_up (own_up (fun _ => 0) 0 (0 : Int32)) 1 (1 : Int32)) 1 T4.heap n0 Zs4 F_sv_numbers_4 g4_0 (by decide) (by decide)) hZ (hw _ (List.mem_of_getElem? (i := 26) rfl)) (hw _ (List.mem_of_getElem? (i := 2) rfl)) (by decide) (by decide)) q6a q6c (g := (mkF m 88 #[.val (.int fl), .val (.long ka), .second, .val (.long kb), .second, .val (.long kc), .second, .val (.ref sv), .val (.int (0 : Int32)), .val (.int (1 : Int32)), .val (.int (0 : Int32)), .val (.long ka), .second, .unset, .unset, .unset, .unset, .unset, .unset] [(.int (1 : Int32)), (.ref sv)])) rfl (by rw [hml]; rfl) (Steps.refl _) (argsL := [(.int (1 : Int32))]) (rest := []) (lenOf pd_0_2 rfl) rfl (by show 2 * 0 + _ ≤ _; exact Nat.le_of_eq rfl) (hb hby at_88) (fun _ _ => ⟨rfl, K5, (by decide : 4 + 0 ≤ _), (by decide : 9 + 0 ≤ _)⟩)
      dsimp only [Pt.U, Pt.locs, Pt.cells, Pt.slots] at Xc6 l6 y6 z6 st6 hQ6
      have X6 := own_cast Xc6 l6 y6 z6
      obtain ⟨ev6, N6q, K6⟩ := hQ6
      rw [ev6] at st6
      have N6 := Fr.app N5 N6q
      refine own_st (fun tgt k => st6.trans k) ?_
      show own_Go p e below _ (T6.setTop (mkF m 91 #[.val (.int fl), .val (.long ka), .second, .val (.long kb), .second, .val (.long kc), .second, .val (.ref sv), .val (.int (0 : Int32)), .val (.int (1 : Int32)), .val (.int (0 : Int32)), .val (.long ka), .second, .unset, .unset, .unset, .unset, .unset, .unset] [(.int ((own_up (own_up (fun _ => 0) 0 (0 : Int32)) 1 (1 : Int32)) 1))]))
      refine own_st (V := T6.setTop (mkF m 134 #[.val (.int fl), .val (.long ka), .second, .val (.long kb), .second, .val (.long kc), .second, .val (.ref sv), .val (.int (0 : Int32)), .val (.int (1 : Int32)), .val (.int (0 : Int32)), .val (.long ka), .second, .val (.int (1 : Int32)), .val (.long ka), .second, .val (.long kb), .second, .unset] [(.int (lcmpW kb ka))])) (fun tgt k => ?_) ?_
      · show Steps p.tables e below (T6.setTop (mkF m 91 #[.val (.int fl), .val (.long ka), .second, .val (.long kb), .second, .val (.long kc), .second, .val (.ref sv), .val (.int (0 : Int32)), .val (.int (1 : Int32)), .val (.int (0 : Int32)), .val (.long ka), .second, .unset, .unset, .unset, .unset, .unset, .unset] [(.int ((own_up (own_up (fun _ => 0) 0 (0 : Int32)) 1 (1 : Int32)) 1))])) tgt
        refine XS.iload X6.here hx rfl (hb hby at_91) rfl ?_
        show Steps p.tables e below (T6.setTop (mkF m 93 #[.val (.int fl), .val (.long ka), .second, .val (.long kb), .second, .val (.long kc), .second, .val (.ref sv), .val (.int (0 : Int32)), .val (.int (1 : Int32)), .val (.int (0 : Int32)), .val (.long ka), .second, .unset, .unset, .unset, .unset, .unset, .unset] [(.int (1 : Int32)), (.int ((own_up (own_up (fun _ => 0) 0 (0 : Int32)) 1 (1 : Int32)) 1))])) tgt
        refine XS.icmpNo X6.here hx rfl (hb hby at_93) rfl (teq (by decide)).2 ?_
        show Steps p.tables e below (T6.setTop (mkF m 96 #[.val (.int fl), .val (.long ka), .second, .val (.long kb), .second, .val (.long kc), .second, .val (.ref sv), .val (.int (0 : Int32)), .val (.int (1 : Int32)), .val (.int (0 : Int32)), .val (.long ka), .second, .unset, .unset, .unset, .unset, .unset, .unset] [])) tgt
        refine XS.iconst X6.here hx rfl (hb hby at_96) ?_
        show Steps p.tables e below (T6.setTop (mkF m 97 #[.val (.int fl), .val (.long ka), .second, .val (.long kb), .second, .val (.long kc), .second, .val (.ref sv), .val (.int (0 : Int32)), .val (.int (1 : Int32)), .val (.int (0 : Int32)), .val (.long ka), .second, .unset, .unset, .unset, .unset, .unset, .unset] [(.int (1 : Int32))])) tgt
        refine XS.goto X6.here hx rfl (pc0 := 97) (pc' := 101) rfl (hb hby at_97) (by decide) (by decide) ?_
        show Steps p.tables e below (T6.setTop (mkF m 101 #[.val (.int fl), .val (.long ka), .second, .val (.long kb), .second, .val (.long kc), .second, .val (.ref sv), .val (.int (0 : Int32)), .val (.int (1 : Int32)), .val (.int (0 : Int32)), .val (.long ka), .second, .unset, .unset, .unset, .unset, .unset, .unset] [(.int (1 : Int32))])) tgt
        refine XS.istore X6.here hx rfl (hb hby at_101) rfl (l' := #[.val (.int fl), .val (.long ka), .second, .val (.long kb), .second, .val (.long kc), .second, .val (.ref sv), .val (.int (0 : Int32)), .val (.int (1 : Int32)), .val (.int (0 : Int32)), .val (.long ka), .second, .val (.int (1 : Int32)), .unset, .unset, .unset, .unset, .unset]) rfl ?_
        show Steps p.tables e below (T6.setTop (mkF m 103 #[.val (.int fl), .val (.long ka), .second, .val (.long kb), .second, .val (.long kc), .second, .val (.ref sv), .val (.int (0 : Int32)), .val (.int (1 : Int32)), .val (.int (0 : Int32)), .val (.long ka), .second, .val (.int (1 : Int32)), .unset, .unset, .unset, .unset, .unset] [])) tgt
        refine XS.iload X6.here hx rfl (hb hby at_103) rfl ?_
        show Steps p.tables e below (T6.setTop (mkF m 105 #[.val (.int fl), .val (.long ka), .second, .val (.long kb), .second, .val (.long kc), .second, .val (.ref sv), .val (.int (0 : Int32)), .val (.int (1 : Int32)), .val (.int (0 : Int32)), .val (.long ka), .second, .val (.int (1 : Int32)), .unset, .unset, .unset, .unset, .unset] [(.int (0 : Int32))])) tgt
        refine XS.ifNo X6.here hx rfl (hb hby at_105) rfl ((if0 _ _).trans (teq (by decide : (0 : Int32) = (0 : Int32))).2) ?_
        show Steps p.tables e below (T6.setTop (mkF m 108 #[.val (.int fl), .val (.long ka), .second, .val (.long kb), .second, .val (.long kc), .second, .val (.ref sv), .val (.int (0 : Int32)), .val (.int (1 : Int32)), .val (.int (0 : Int32)), .val (.long ka), .second, .val (.int (1 : Int32)), .unset, .unset, .unset, .unset, .unset] [])) tgt
        refine XS.lload X6.here hx rfl (hb hby at_108) rfl ?_
        show Steps p.tables e below (T6.setTop (mkF m 110 #[.val (.int fl), .val (.long ka), .second, .val (.long kb), .second, .val (.long kc), .second, .val (.ref sv), .val (.int (0 : Int32)), .val (.int (1 : Int32)), .val (.int (0 : Int32)), .val (.long ka), .second, .val (.int (1 : Int32)), .unset, .unset, .unset, .unset, .unset] [(.long ka)])) tgt
        refine XS.goto X6.here hx rfl (pc0 := 110) (pc' := 114) rfl (hb hby at_110) (by decide) (by decide) ?_
        show Steps p.tables e below (T6.setTop (mkF m 114 #[.val (.int fl), .val (.long ka), .second, .val (.long kb), .second, .val (.long kc), .second, .val (.ref sv), .val (.int (0 : Int32)), .val (.int (1 : Int32)), .val (.int (0 : Int32)), .val (.long ka), .second, .val (.int (1 : Int32)), .unset, .unset, .unset, .unset, .unset] [(.long ka)])) tgt
        refine XS.lstore X6.here hx rfl (hb hby at_114) rfl (l' := #[.val (.int fl), .val (.long ka), .second, .val (.long kb), .second, .val (.long kc), .second, .val (.ref sv), .val (.int (0 : Int32)), .val (.int (1 : Int32)), .val (.int (0 : Int32)), .val (.long ka), .second, .val (.int (1 : Int32)), .val (.long ka), .second, .unset, .unset, .unset]) rfl ?_
        show Steps p.tables e below (T6.setTop (mkF m 116 #[.val (.int fl), .val (.long ka), .second, .val (.long kb), .second, .val (.long kc), .second, .val (.ref sv), .val (.int (0 : Int32)), .val (.int (1 : Int32)), .val (.int (0 : Int32)), .val (.long ka), .second, .val (.int (1 : Int32)), .val (.long ka), .second, .unset, .unset, .unset] [])) tgt
        refine XS.iload X6.here hx rfl (hb hby at_116) rfl ?_
        show Steps p.tables e below (T6.setTop (mkF m 118 #[.val (.int fl), .val (.long ka), .second, .val (.long kb), .second, .val (.long kc), .second, .val (.ref sv), .val (.int (0 : Int32)), .val (.int (1 : Int32)), .val (.int (0 : Int32)), .val (.long ka), .second, .val (.int (1 : Int32)), .val (.long ka), .second, .unset, .unset, .unset] [(.int (0 : Int32))])) tgt
        refine XS.ifNo X6.here hx rfl (hb hby at_118) rfl ((if0 _ _).trans (teq (by decide : (0 : Int32) = (0 : Int32))).2) ?_
        show Steps p.tables e below (T6.setTop (mkF m 121 #[.val (.int fl), .val (.long ka), .second, .val (.long kb), .second, .val (.long kc), .second, .val (.ref sv), .val (.int (0 : Int32)), .val (.int (1 : Int32)), .val (.int (0 : Int32)), .val (.long ka), .second, .val (.int (1 : Int32)), .val (.long ka), .second, .unset, .unset, .unset] [])) tgt
        refine XS.lloadN X6.here hx rfl (hb hby at_121) rfl ?_
        show Steps p.tables e below (T6.setTop (mkF m 122 #[.val (.int fl), .val (.long ka), .second, .val (.long kb), .second, .val (.long kc), .second, .val (.ref sv), .val (.int (0 : Int32)), .val (.int (1 : Int32)), .val (.int (0 : Int32)), .val (.long ka), .second, .val (.int (1 : Int32)), .val (.long ka), .second, .unset, .unset, .unset] [(.long kb)])) tgt
        refine XS.goto X6.here hx rfl (pc0 := 122) (pc' := 127) rfl (hb hby at_122) (by decide) (by decide) ?_
        show Steps p.tables e below (T6.setTop (mkF m 127 #[.val (.int fl), .val (.long ka), .second, .val (.long kb), .second, .val (.long kc), .second, .val (.ref sv), .val (.int (0 : Int32)), .val (.int (1 : Int32)), .val (.int (0 : Int32)), .val (.long ka), .second, .val (.int (1 : Int32)), .val (.long ka), .second, .unset, .unset, .unset] [(.long kb)])) tgt
        refine XS.lstore X6.here hx rfl (hb hby at_127) rfl (l' := #[.val (.int fl), .val (.long ka), .second, .val (.long kb), .second, .val (.long kc), .second, .val (.ref sv), .val (.int (0 : Int32)), .val (.int (1 : Int32)), .val (.int (0 : Int32)), .val (.long ka), .second, .val (.int (1 : Int32)), .val (.long ka), .second, .val (.long kb), .second, .unset]) rfl ?_
        show Steps p.tables e below (T6.setTop (mkF m 129 #[.val (.int fl), .val (.long ka), .second, .val (.long kb), .second, .val (.long kc), .second, .val (.ref sv), .val (.int (0 : Int32)), .val (.int (1 : Int32)), .val (.int (0 : Int32)), .val (.long ka), .second, .val (.int (1 : Int32)), .val (.long ka), .second, .val (.long kb), .second, .unset] [])) tgt
        refine XS.lload X6.here hx rfl (hb hby at_129) rfl ?_
        show Steps p.tables e below (T6.setTop (mkF m 131 #[.val (.int fl), .val (.long ka), .second, .val (.long kb), .second, .val (.long kc), .second, .val (.ref sv), .val (.int (0 : Int32)), .val (.int (1 : Int32)), .val (.int (0 : Int32)), .val (.long ka), .second, .val (.int (1 : Int32)), .val (.long ka), .second, .val (.long kb), .second, .unset] [(.long kb)])) tgt
        refine XS.lload X6.here hx rfl (hb hby at_131) rfl ?_
        show Steps p.tables e below (T6.setTop (mkF m 133 #[.val (.int fl), .val (.long ka), .second, .val (.long kb), .second, .val (.long kc), .second, .val (.ref sv), .val (.int (0 : Int32)), .val (.int (1 : Int32)), .val (.int (0 : Int32)), .val (.long ka), .second, .val (.int (1 : Int32)), .val (.long ka), .second, .val (.long kb), .second, .unset] [(.long ka), (.long kb)])) tgt
        refine XS.lcmp X6.here hx rfl (hb hby at_133) rfl ?_
        exact k
      by_cases hc134 : kb < ka
      · skip
        refine own_st (V := T6.setTop (mkF m 147 #[.val (.int fl), .val (.long ka), .second, .val (.long kb), .second, .val (.long kc), .second, .val (.ref sv), .val (.int (0 : Int32)), .val (.int (1 : Int32)), .val (.int (0 : Int32)), .val (.long ka), .second, .val (.int (1 : Int32)), .val (.long ka), .second, .val (.long kb), .second, .val (.int (1 : Int32))] [(.int (2 : Int32)), (.ref sv)])) (fun tgt k => ?_) ?_
        · show Steps p.tables e below (T6.setTop (mkF m 134 #[.val (.int fl), .val (.long ka), .second, .val (.long kb), .second, .val (.long kc), .second, .val (.ref sv), .val (.int (0 : Int32)), .val (.int (1 : Int32)), .val (.int (0 : Int32)), .val (.long ka), .second, .val (.int (1 : Int32)), .val (.long ka), .second, .val (.long kb), .second, .unset] [(.int (lcmpW kb ka))])) tgt
          refine XS.ifNo X6.here hx rfl (hb hby at_134) rfl ((if0 _ _).trans (tlt ((lw_lt kb ka).mpr hc134)).2.1) ?_
          show Steps p.tables e below (T6.setTop (mkF m 137 #[.val (.int fl), .val (.long ka), .second, .val (.long kb), .second, .val (.long kc), .second, .val (.ref sv), .val (.int (0 : Int32)), .val (.int (1 : Int32)), .val (.int (0 : Int32)), .val (.long ka), .second, .val (.int (1 : Int32)), .val (.long ka), .second, .val (.long kb), .second, .unset] [])) tgt
          refine XS.iconst X6.here hx rfl (hb hby at_137) ?_
          show Steps p.tables e below (T6.setTop (mkF m 138 #[.val (.int fl), .val (.long ka), .second, .val (.long kb), .second, .val (.long kc), .second, .val (.ref sv), .val (.int (0 : Int32)), .val (.int (1 : Int32)), .val (.int (0 : Int32)), .val (.long ka), .second, .val (.int (1 : Int32)), .val (.long ka), .second, .val (.long kb), .second, .unset] [(.int (1 : Int32))])) tgt
          refine XS.goto X6.here hx rfl (pc0 := 138) (pc' := 142) rfl (hb hby at_138) (by decide) (by decide) ?_
          show Steps p.tables e below (T6.setTop (mkF m 142 #[.val (.int fl), .val (.long ka), .second, .val (.long kb), .second, .val (.long kc), .second, .val (.ref sv), .val (.int (0 : Int32)), .val (.int (1 : Int32)), .val (.int (0 : Int32)), .val (.long ka), .second, .val (.int (1 : Int32)), .val (.long ka), .second, .val (.long kb), .second, .unset] [(.int (1 : Int32))])) tgt
          refine XS.istore X6.here hx rfl (hb hby at_142) rfl (l' := #[.val (.int fl), .val (.long ka), .second, .val (.long kb), .second, .val (.long kc), .second, .val (.ref sv), .val (.int (0 : Int32)), .val (.int (1 : Int32)), .val (.int (0 : Int32)), .val (.long ka), .second, .val (.int (1 : Int32)), .val (.long ka), .second, .val (.long kb), .second, .val (.int (1 : Int32))]) rfl ?_
          show Steps p.tables e below (T6.setTop (mkF m 144 #[.val (.int fl), .val (.long ka), .second, .val (.long kb), .second, .val (.long kc), .second, .val (.ref sv), .val (.int (0 : Int32)), .val (.int (1 : Int32)), .val (.int (0 : Int32)), .val (.long ka), .second, .val (.int (1 : Int32)), .val (.long ka), .second, .val (.long kb), .second, .val (.int (1 : Int32))] [])) tgt
          refine XS.aload X6.here hx rfl (hb hby at_144) rfl rfl ?_
          show Steps p.tables e below (T6.setTop (mkF m 146 #[.val (.int fl), .val (.long ka), .second, .val (.long kb), .second, .val (.long kc), .second, .val (.ref sv), .val (.int (0 : Int32)), .val (.int (1 : Int32)), .val (.int (0 : Int32)), .val (.long ka), .second, .val (.int (1 : Int32)), .val (.long ka), .second, .val (.long kb), .second, .val (.int (1 : Int32))] [(.ref sv)])) tgt
          refine XS.iconst X6.here hx rfl (hb hby at_146) ?_
          exact k
        obtain ⟨cq7, kq7, q7a, q7b, q7c⟩ := isOf hZ K6 E_sv_4
        obtain ⟨v7, _, ⟨T7, L7, k7, n7⟩, -, Xc7, ⟨Lc7, hQ7, l7, y7, z7⟩, st7⟩ := X6.virtualBack hx (y := (⟨"com/example/chainwright/chainwright/KeySort", "sort", "(I)V"⟩ : MethodName)) (z := (⟨"com/example/chainwright/chainwright/KeySort", "sort", "(I)V"⟩ : MethodName)) hown (mvT hZ (hw _ (List.mem_of_getElem? (i := 27) rfl))) (mvT hZ (hw _ (List.mem_of_getElem? (i := 28) rfl))) (notFace_of_selects (args := #[]) (mvT hZ (hw _ (List.mem_of_getElem? (i := 30) rfl)))) (mvT hZ (hw _ (List.mem_of_getElem? (i := 30) rfl))) (mvT hZ (hw _ (List.mem_of_getElem? (i := 29) rfl))) (by decide) (backOf (W := 0) (rm5 l Z a0 hw [] sv (2 : Int32) nu_2 ke_2 ro_2 (own_up (own_up (fun _ => 0) 0 (0 : Int32)) 1 (1 : Int32)) (own_upJ (own_upJ (fun _ => 0) 0 ka) 1 kb) (fun _ => 0) 0 1 T4.heap n0 Zs4 E_sv_4 F_sv_numbers_4 F_sv_keys_4 F_sv_room_4 g4_0 g4_1 A_ro_2_4 g2_3 g2_5 g2_6 g2_7 g2_8 ne_sv_nu_2 ne_sv_ro_2 rfl (by decide) (by decide) (by decide) (by decide)) hZ (hw _ (List.mem_of_getElem? (i := 31) rfl)) (hw _ (List.mem_of_getElem? (i := 2) rfl)) (by decide) (by decide)) q7a q7c (g := (mkF m 147 #[.val (.int fl), .val (.long ka), .second, .val (.long kb), .second, .val (.long kc), .second, .val (.ref sv), .val (.int (0 : Int32)), .val (.int (1 : Int32)), .val (.int (0 : Int32)), .val (.long ka), .second, .val (.int (1 : Int32)), .val (.long ka), .second, .val (.long kb), .second, .val (.int (1 : Int32))] [(.int (2 : Int32)), (.ref sv)])) rfl (by rw [hml]; rfl) (Steps.refl _) (argsL := [(.int (2 : Int32))]) (rest := []) (lenOf pd_0_0 rfl) rfl (by show 2 * 0 + _ ≤ _; exact Nat.le_of_eq rfl) (hb hby at_147) (fun _ _ => ⟨rfl, K6, (by decide : 4 + 0 ≤ _), (by decide : 9 + 0 ≤ _)⟩)
        dsimp only [Pt.U, Pt.locs, Pt.cells, Pt.slots] at Xc7 l7 y7 z7 st7 hQ7
        have X7 := own_cast Xc7 l7 y7 z7
        obtain ⟨ev7, N7q, K7, g7_0⟩ := hQ7
        rw [ev7] at st7
        have N7 := Fr.app N6 N7q
        have E_sv_7 := E_sv_4.keep K7
        have F_sv_numbers_7 := F_sv_numbers_4.keep K7 (ninS ne_sv_nu_2 (ninS ne_sv_ro_2 nin0))
        have F_sv_keys_7 := F_sv_keys_4.keep K7 (ninS ne_sv_nu_2 (ninS ne_sv_ro_2 nin0))
        have F_sv_room_7 := F_sv_room_4.keep K7 (ninS ne_sv_nu_2 (ninS ne_sv_ro_2 nin0))
        have A_ke_2_7 := g4_1.keep K7 (ninS (Ne.symm g2_6) (ninS g2_8 nin0))
        have Zs7 : n0 ≤ T7.heap.size := Nat.le_trans Zs4 K7.1
        refine own_st (fun tgt k => st7.trans k) ?_
        show own_Go p e below _ (T7.setTop (mkF m 150 #[.val (.int fl), .val (.long ka), .second, .val (.long kb), .second, .val (.long kc), .second, .val (.ref sv), .val (.int (0 : Int32)), .val (.int (1 : Int32)), .val (.int (0 : Int32)), .val (.long ka), .second, .val (.int (1 : Int32)), .val (.long ka), .second, .val (.long kb), .second, .val (.int (1 : Int32))] []))
        refine own_st (V := T7.setTop (mkF m 158 #[.val (.int fl), .val (.long ka), .second, .val (.long kb), .second, .val (.long kc), .second, .val (.ref sv), .val (.int (0 : Int32)), .val (.int (1 : Int32)), .val (.int (0 : Int32)), .val (.long ka), .second, .val (.int (1 : Int32)), .val (.long ka), .second, .val (.long kb), .second, .val (.int (1 : Int32))] [(.int (0 : Int32)), (.ref sv)])) (fun tgt k => ?_) ?_
        · show Steps p.tables e below (T7.setTop (mkF m 150 #[.val (.int fl), .val (.long ka), .second, .val (.long kb), .second, .val (.long kc), .second, .val (.ref sv), .val (.int (0 : Int32)), .val (.int (1 : Int32)), .val (.int (0 : Int32)), .val (.long ka), .second, .val (.int (1 : Int32)), .val (.long ka), .second, .val (.long kb), .second, .val (.int (1 : Int32))] [])) tgt
          refine XS.iload X7.here hx rfl (hb hby at_150) rfl ?_
          show Steps p.tables e below (T7.setTop (mkF m 152 #[.val (.int fl), .val (.long ka), .second, .val (.long kb), .second, .val (.long kc), .second, .val (.ref sv), .val (.int (0 : Int32)), .val (.int (1 : Int32)), .val (.int (0 : Int32)), .val (.long ka), .second, .val (.int (1 : Int32)), .val (.long ka), .second, .val (.long kb), .second, .val (.int (1 : Int32))] [(.int (1 : Int32))])) tgt
          refine XS.ifNo X7.here hx rfl (hb hby at_152) rfl ((if0 _ _).trans (feq (by decide : ¬ ((1 : Int32) = (0 : Int32)))).1) ?_
          show Steps p.tables e below (T7.setTop (mkF m 155 #[.val (.int fl), .val (.long ka), .second, .val (.long kb), .second, .val (.long kc), .second, .val (.ref sv), .val (.int (0 : Int32)), .val (.int (1 : Int32)), .val (.int (0 : Int32)), .val (.long ka), .second, .val (.int (1 : Int32)), .val (.long ka), .second, .val (.long kb), .second, .val (.int (1 : Int32))] [])) tgt
          refine XS.aload X7.here hx rfl (hb hby at_155) rfl rfl ?_
          show Steps p.tables e below (T7.setTop (mkF m 157 #[.val (.int fl), .val (.long ka), .second, .val (.long kb), .second, .val (.long kc), .second, .val (.ref sv), .val (.int (0 : Int32)), .val (.int (1 : Int32)), .val (.int (0 : Int32)), .val (.long ka), .second, .val (.int (1 : Int32)), .val (.long ka), .second, .val (.long kb), .second, .val (.int (1 : Int32))] [(.ref sv)])) tgt
          refine XS.iconst X7.here hx rfl (hb hby at_157) ?_
          exact k
        obtain ⟨cq8, kq8, q8a, q8b, q8c⟩ := isOf hZ rfl E_sv_7
        obtain ⟨v8, _, ⟨T8, L8, k8, n8⟩, -, Xc8, ⟨Lc8, hQ8, l8, y8, z8⟩, st8⟩ := X7.virtualBack hx (y := (⟨"com/example/chainwright/chainwright/KeySort", "number", "(I)I"⟩ : MethodName)) (z := (⟨"com/example/chainwright/chainwright/KeySort", "number", "(I)I"⟩ : MethodName)) hown (mvT hZ (hw _ (List.mem_of_getElem? (i := 22) rfl))) (mvT hZ (hw _ (List.mem_of_getElem? (i := 23) rfl))) (notFace_of_selects (args := #[]) (mvT hZ (hw _ (List.mem_of_getElem? (i := 25) rfl)))) (mvT hZ (hw _ (List.mem_of_getElem? (i := 25) rfl))) (mvT hZ (hw _ (List.mem_of_getElem? (i := 24) rfl))) (by decide) (backOf (W := 0) (rm4 l Z a0 hw [] sv (0 : Int32) nu_2 (if (own_bf (own_upJ (own_upJ (fun _ => 0) 0 ka) 1 kb) ((own_up (own_up (fun _ => 0) 0 (0 : Int32)) 1 (1 : Int32)) 1) ((own_up (own_up (fun _ => 0) 0 (0 : Int32)) 1 (1 : Int32)) 0) 1 0) = 0 then (own_up (own_up (fun _ => 0) 0 ((own_up (own_up (fun _ => 0) 0 (0 : Int32)) 1 (1 : Int32)) 0)) 1 ((own_up (own_up (fun _ => 0) 0 (0 : Int32)) 1 (1 : Int32)) 1)) else (own_up (own_up (fun _ => 0) 0 ((own_up (own_up (fun _ => 0) 0 (0 : Int32)) 1 (1 : Int32)) 1)) 1 ((own_up (own_up (fun _ => 0) 0 (0 : Int32)) 1 (1 : Int32)) 0))) 0 T7.heap n0 Zs7 F_sv_numbers_7 g7_0 (by decide) (by decide)) hZ (hw _ (List.mem_of_getElem? (i := 26) rfl)) (hw _ (List.mem_of_getElem? (i := 2) rfl)) (by decide) (by decide)) q8a q8c (g := (mkF m 158 #[.val (.int fl), .val (.long ka), .second, .val (.long kb), .second, .val (.long kc), .second, .val (.ref sv), .val (.int (0 : Int32)), .val (.int (1 : Int32)), .val (.int (0 : Int32)), .val (.long ka), .second, .val (.int (1 : Int32)), .val (.long ka), .second, .val (.long kb), .second, .val (.int (1 : Int32))] [(.int (0 : Int32)), (.ref sv)])) rfl (by rw [hml]; rfl) (Steps.refl _) (argsL := [(.int (0 : Int32))]) (rest := []) (lenOf pd_0_2 rfl) rfl (by show 2 * 0 + _ ≤ _; exact Nat.le_of_eq rfl) (hb hby at_158) (fun _ _ => ⟨rfl, rfl, (by decide : 4 + 0 ≤ _), (by decide : 9 + 0 ≤ _)⟩)
        dsimp only [Pt.U, Pt.locs, Pt.cells, Pt.slots] at Xc8 l8 y8 z8 st8 hQ8
        have X8 := own_cast Xc8 l8 y8 z8
        obtain ⟨ev8, N8q, K8⟩ := hQ8
        rw [ev8] at st8
        have N8 := Fr.app N7 N8q
        refine own_st (fun tgt k => st8.trans k) ?_
        show own_Go p e below _ (T8.setTop (mkF m 161 #[.val (.int fl), .val (.long ka), .second, .val (.long kb), .second, .val (.long kc), .second, .val (.ref sv), .val (.int (0 : Int32)), .val (.int (1 : Int32)), .val (.int (0 : Int32)), .val (.long ka), .second, .val (.int (1 : Int32)), .val (.long ka), .second, .val (.long kb), .second, .val (.int (1 : Int32))] [(.int ((if (own_bf (own_upJ (own_upJ (fun _ => 0) 0 ka) 1 kb) ((own_up (own_up (fun _ => 0) 0 (0 : Int32)) 1 (1 : Int32)) 1) ((own_up (own_up (fun _ => 0) 0 (0 : Int32)) 1 (1 : Int32)) 0) 1 0) = 0 then (own_up (own_up (fun _ => 0) 0 ((own_up (own_up (fun _ => 0) 0 (0 : Int32)) 1 (1 : Int32)) 0)) 1 ((own_up (own_up (fun _ => 0) 0 (0 : Int32)) 1 (1 : Int32)) 1)) else (own_up (own_up (fun _ => 0) 0 ((own_up (own_up (fun _ => 0) 0 (0 : Int32)) 1 (1 : Int32)) 1)) 1 ((own_up (own_up (fun _ => 0) 0 (0 : Int32)) 1 (1 : Int32)) 0))) 0))]))
        refine own_st (V := T8.setTop (mkF m 169 #[.val (.int fl), .val (.long ka), .second, .val (.long kb), .second, .val (.long kc), .second, .val (.ref sv), .val (.int (0 : Int32)), .val (.int (1 : Int32)), .val (.int (0 : Int32)), .val (.long ka), .second, .val (.int (1 : Int32)), .val (.long ka), .second, .val (.long kb), .second, .val (.int (1 : Int32))] [(.int (1 : Int32)), (.ref sv)])) (fun tgt k => ?_) ?_
        · show Steps p.tables e below (T8.setTop (mkF m 161 #[.val (.int fl), .val (.long ka), .second, .val (.long kb), .second, .val (.long kc), .second, .val (.ref sv), .val (.int (0 : Int32)), .val (.int (1 : Int32)), .val (.int (0 : Int32)), .val (.long ka), .second, .val (.int (1 : Int32)), .val (.long ka), .second, .val (.long kb), .second, .val (.int (1 : Int32))] [(.int ((if (own_bf (own_upJ (own_upJ (fun _ => 0) 0 ka) 1 kb) ((own_up (own_up (fun _ => 0) 0 (0 : Int32)) 1 (1 : Int32)) 1) ((own_up (own_up (fun _ => 0) 0 (0 : Int32)) 1 (1 : Int32)) 0) 1 0) = 0 then (own_up (own_up (fun _ => 0) 0 ((own_up (own_up (fun _ => 0) 0 (0 : Int32)) 1 (1 : Int32)) 0)) 1 ((own_up (own_up (fun _ => 0) 0 (0 : Int32)) 1 (1 : Int32)) 1)) else (own_up (own_up (fun _ => 0) 0 ((own_up (own_up (fun _ => 0) 0 (0 : Int32)) 1 (1 : Int32)) 1)) 1 ((own_up (own_up (fun _ => 0) 0 (0 : Int32)) 1 (1 : Int32)) 0))) 0))])) tgt
          refine XS.iload X8.here hx rfl (hb hby at_161) rfl ?_
          show Steps p.tables e below (T8.setTop (mkF m 163 #[.val (.int fl), .val (.long ka), .second, .val (.long kb), .second, .val (.long kc), .second, .val (.ref sv), .val (.int (0 : Int32)), .val (.int (1 : Int32)), .val (.int (0 : Int32)), .val (.long ka), .second, .val (.int (1 : Int32)), .val (.long ka), .second, .val (.long kb), .second, .val (.int (1 : Int32))] [(.int (1 : Int32)), (.int ((if (own_bf (own_upJ (own_upJ (fun _ => 0) 0 ka) 1 kb) ((own_up (own_up (fun _ => 0) 0 (0 : Int32)) 1 (1 : Int32)) 1) ((own_up (own_up (fun _ => 0) 0 (0 : Int32)) 1 (1 : Int32)) 0) 1 0) = 0 then (own_up (own_up (fun _ => 0) 0 ((own_up (own_up (fun _ => 0) 0 (0 : Int32)) 1 (1 : Int32)) 0)) 1 ((own_up (own_up (fun _ => 0) 0 (0 : Int32)) 1 (1 : Int32)) 1)) else (own_up (own_up (fun _ => 0) 0 ((own_up (own_up (fun _ => 0) 0 (0 : Int32)) 1 (1 : Int32)) 1)) 1 ((own_up (own_up (fun _ => 0) 0 (0 : Int32)) 1 (1 : Int32)) 0))) 0))])) tgt
          refine XS.icmpNo X8.here hx rfl (hb hby at_163) rfl (teq (by simp [own_bf, own_b10, own_b01, own_up, own_upJ, hc134])).2 ?_
          show Steps p.tables e below (T8.setTop (mkF m 166 #[.val (.int fl), .val (.long ka), .second, .val (.long kb), .second, .val (.long kc), .second, .val (.ref sv), .val (.int (0 : Int32)), .val (.int (1 : Int32)), .val (.int (0 : Int32)), .val (.long ka), .second, .val (.int (1 : Int32)), .val (.long ka), .second, .val (.long kb), .second, .val (.int (1 : Int32))] [])) tgt
          refine XS.aload X8.here hx rfl (hb hby at_166) rfl rfl ?_
          show Steps p.tables e below (T8.setTop (mkF m 168 #[.val (.int fl), .val (.long ka), .second, .val (.long kb), .second, .val (.long kc), .second, .val (.ref sv), .val (.int (0 : Int32)), .val (.int (1 : Int32)), .val (.int (0 : Int32)), .val (.long ka), .second, .val (.int (1 : Int32)), .val (.long ka), .second, .val (.long kb), .second, .val (.int (1 : Int32))] [(.ref sv)])) tgt
          refine XS.iconst X8.here hx rfl (hb hby at_168) ?_
          exact k
        obtain ⟨cq9, kq9, q9a, q9b, q9c⟩ := isOf hZ K8 E_sv_7
        obtain ⟨v9, _, ⟨T9, L9, k9, n9⟩, -, Xc9, ⟨Lc9, hQ9, l9, y9, z9⟩, st9⟩ := X8.virtualBack hx (y := (⟨"com/example/chainwright/chainwright/KeySort", "number", "(I)I"⟩ : MethodName)) (z := (⟨"com/example/chainwright/chainwright/KeySort", "number", "(I)I"⟩ : MethodName)) hown (mvT hZ (hw _ (List.mem_of_getElem? (i := 22) rfl))) (mvT hZ (hw _ (List.mem_of_getElem? (i := 23) rfl))) (notFace_of_selects (args := #[]) (mvT hZ (hw _ (List.mem_of_getElem? (i := 25) rfl)))) (mvT hZ (hw _ (List.mem_of_getElem? (i := 25) rfl))) (mvT hZ (hw _ (List.mem_of_getElem? (i := 24) rfl))) (by decide) (backOf (W := 0) (rm4 l Z a0 hw [] sv (1 : Int32) nu_2 (if (own_bf (own_upJ (own_upJ (fun _ => 0) 0 ka) 1 kb) ((own_up (own_up (fun _ => 0) 0 (0 : Int32)) 1 (1 : Int32)) 1) ((own_up (own_up (fun _ => 0) 0 (0 : Int32)) 1 (1 : Int32)) 0) 1 0) = 0 then (own_up (own_up (fun _ => 0) 0 ((own_up (own_up (fun _ => 0) 0 (0 : Int32)) 1 (1 : Int32)) 0)) 1 ((own_up (own_up (fun _ => 0) 0 (0 : Int32)) 1 (1 : Int32)) 1)) else (own_up (own_up (fun _ => 0) 0 ((own_up (own_up (fun _ => 0) 0 (0 : Int32)) 1 (1 : Int32)) 1)) 1 ((own_up (own_up (fun _ => 0) 0 (0 : Int32)) 1 (1 : Int32)) 0))) 1 T7.heap n0 Zs7 F_sv_numbers_7 g7_0 (by decide) (by decide)) hZ (hw _ (List.mem_of_getElem? (i := 26) rfl)) (hw _ (List.mem_of_getElem? (i := 2) rfl)) (by decide) (by decide)) q9a q9c (g := (mkF m 169 #[.val (.int fl), .val (.long ka), .second, .val (.long kb), .second, .val (.long kc), .second, .val (.ref sv), .val (.int (0 : Int32)), .val (.int (1 : Int32)), .val (.int (0 : Int32)), .val (.long ka), .second, .val (.int (1 : Int32)), .val (.long ka), .second, .val (.long kb), .second, .val (.int (1 : Int32))] [(.int (1 : Int32)), (.ref sv)])) rfl (by rw [hml]; rfl) (Steps.refl _) (argsL := [(.int (1 : Int32))]) (rest := []) (lenOf pd_0_2 rfl) rfl (by show 2 * 0 + _ ≤ _; exact Nat.le_of_eq rfl) (hb hby at_169) (fun _ _ => ⟨rfl, K8, (by decide : 4 + 0 ≤ _), (by decide : 9 + 0 ≤ _)⟩)
        dsimp only [Pt.U, Pt.locs, Pt.cells, Pt.slots] at Xc9 l9 y9 z9 st9 hQ9
        have X9 := own_cast Xc9 l9 y9 z9
        obtain ⟨ev9, N9q, K9⟩ := hQ9
        rw [ev9] at st9
        have N9 := Fr.app N8 N9q
        refine own_st (fun tgt k => st9.trans k) ?_
        show own_Go p e below _ (T9.setTop (mkF m 172 #[.val (.int fl), .val (.long ka), .second, .val (.long kb), .second, .val (.long kc), .second, .val (.ref sv), .val (.int (0 : Int32)), .val (.int (1 : Int32)), .val (.int (0 : Int32)), .val (.long ka), .second, .val (.int (1 : Int32)), .val (.long ka), .second, .val (.long kb), .second, .val (.int (1 : Int32))] [(.int ((if (own_bf (own_upJ (own_upJ (fun _ => 0) 0 ka) 1 kb) ((own_up (own_up (fun _ => 0) 0 (0 : Int32)) 1 (1 : Int32)) 1) ((own_up (own_up (fun _ => 0) 0 (0 : Int32)) 1 (1 : Int32)) 0) 1 0) = 0 then (own_up (own_up (fun _ => 0) 0 ((own_up (own_up (fun _ => 0) 0 (0 : Int32)) 1 (1 : Int32)) 0)) 1 ((own_up (own_up (fun _ => 0) 0 (0 : Int32)) 1 (1 : Int32)) 1)) else (own_up (own_up (fun _ => 0) 0 ((own_up (own_up (fun _ => 0) 0 (0 : Int32)) 1 (1 : Int32)) 1)) 1 ((own_up (own_up (fun _ => 0) 0 (0 : Int32)) 1 (1 : Int32)) 0))) 1))]))
        refine own_st (V := T9.setTop (mkF m 176 #[.val (.int fl), .val (.long ka), .second, .val (.long kb), .second, .val (.long kc), .second, .val (.ref sv), .val (.int (0 : Int32)), .val (.int (1 : Int32)), .val (.int (0 : Int32)), .val (.long ka), .second, .val (.int (1 : Int32)), .val (.long ka), .second, .val (.long kb), .second, .val (.int (1 : Int32))] [(.int ((1 : Int32) - (1 : Int32))), (.int ((if (own_bf (own_upJ (own_upJ (fun _ => 0) 0 ka) 1 kb) ((own_up (own_up (fun _ => 0) 0 (0 : Int32)) 1 (1 : Int32)) 1) ((own_up (own_up (fun _ => 0) 0 (0 : Int32)) 1 (1 : Int32)) 0) 1 0) = 0 then (own_up (own_up (fun _ => 0) 0 ((own_up (own_up (fun _ => 0) 0 (0 : Int32)) 1 (1 : Int32)) 0)) 1 ((own_up (own_up (fun _ => 0) 0 (0 : Int32)) 1 (1 : Int32)) 1)) else (own_up (own_up (fun _ => 0) 0 ((own_up (own_up (fun _ => 0) 0 (0 : Int32)) 1 (1 : Int32)) 1)) 1 ((own_up (own_up (fun _ => 0) 0 (0 : Int32)) 1 (1 : Int32)) 0))) 1))])) (fun tgt k => ?_) ?_
        · show Steps p.tables e below (T9.setTop (mkF m 172 #[.val (.int fl), .val (.long ka), .second, .val (.long kb), .second, .val (.long kc), .second, .val (.ref sv), .val (.int (0 : Int32)), .val (.int (1 : Int32)), .val (.int (0 : Int32)), .val (.long ka), .second, .val (.int (1 : Int32)), .val (.long ka), .second, .val (.long kb), .second, .val (.int (1 : Int32))] [(.int ((if (own_bf (own_upJ (own_upJ (fun _ => 0) 0 ka) 1 kb) ((own_up (own_up (fun _ => 0) 0 (0 : Int32)) 1 (1 : Int32)) 1) ((own_up (own_up (fun _ => 0) 0 (0 : Int32)) 1 (1 : Int32)) 0) 1 0) = 0 then (own_up (own_up (fun _ => 0) 0 ((own_up (own_up (fun _ => 0) 0 (0 : Int32)) 1 (1 : Int32)) 0)) 1 ((own_up (own_up (fun _ => 0) 0 (0 : Int32)) 1 (1 : Int32)) 1)) else (own_up (own_up (fun _ => 0) 0 ((own_up (own_up (fun _ => 0) 0 (0 : Int32)) 1 (1 : Int32)) 1)) 1 ((own_up (own_up (fun _ => 0) 0 (0 : Int32)) 1 (1 : Int32)) 0))) 1))])) tgt
          refine XS.iconst X9.here hx rfl (hb hby at_172) ?_
          show Steps p.tables e below (T9.setTop (mkF m 173 #[.val (.int fl), .val (.long ka), .second, .val (.long kb), .second, .val (.long kc), .second, .val (.ref sv), .val (.int (0 : Int32)), .val (.int (1 : Int32)), .val (.int (0 : Int32)), .val (.long ka), .second, .val (.int (1 : Int32)), .val (.long ka), .second, .val (.long kb), .second, .val (.int (1 : Int32))] [(.int (1 : Int32)), (.int ((if (own_bf (own_upJ (own_upJ (fun _ => 0) 0 ka) 1 kb) ((own_up (own_up (fun _ => 0) 0 (0 : Int32)) 1 (1 : Int32)) 1) ((own_up (own_up (fun _ => 0) 0 (0 : Int32)) 1 (1 : Int32)) 0) 1 0) = 0 then (own_up (own_up (fun _ => 0) 0 ((own_up (own_up (fun _ => 0) 0 (0 : Int32)) 1 (1 : Int32)) 0)) 1 ((own_up (own_up (fun _ => 0) 0 (0 : Int32)) 1 (1 : Int32)) 1)) else (own_up (own_up (fun _ => 0) 0 ((own_up (own_up (fun _ => 0) 0 (0 : Int32)) 1 (1 : Int32)) 1)) 1 ((own_up (own_up (fun _ => 0) 0 (0 : Int32)) 1 (1 : Int32)) 0))) 1))])) tgt
          refine XS.iload X9.here hx rfl (hb hby at_173) rfl ?_
          show Steps p.tables e below (T9.setTop (mkF m 175 #[.val (.int fl), .val (.long ka), .second, .val (.long kb), .second, .val (.long kc), .second, .val (.ref sv), .val (.int (0 : Int32)), .val (.int (1 : Int32)), .val (.int (0 : Int32)), .val (.long ka), .second, .val (.int (1 : Int32)), .val (.long ka), .second, .val (.long kb), .second, .val (.int (1 : Int32))] [(.int (1 : Int32)), (.int (1 : Int32)), (.int ((if (own_bf (own_upJ (own_upJ (fun _ => 0) 0 ka) 1 kb) ((own_up (own_up (fun _ => 0) 0 (0 : Int32)) 1 (1 : Int32)) 1) ((own_up (own_up (fun _ => 0) 0 (0 : Int32)) 1 (1 : Int32)) 0) 1 0) = 0 then (own_up (own_up (fun _ => 0) 0 ((own_up (own_up (fun _ => 0) 0 (0 : Int32)) 1 (1 : Int32)) 0)) 1 ((own_up (own_up (fun _ => 0) 0 (0 : Int32)) 1 (1 : Int32)) 1)) else (own_up (own_up (fun _ => 0) 0 ((own_up (own_up (fun _ => 0) 0 (0 : Int32)) 1 (1 : Int32)) 1)) 1 ((own_up (own_up (fun _ => 0) 0 (0 : Int32)) 1 (1 : Int32)) 0))) 1))])) tgt
          refine XS.isub X9.here hx rfl (hb hby at_175) rfl ?_
          exact k
        rw [show ((1 : Int32) - (1 : Int32)) = (0 : Int32) from by decide]
        refine own_st (V := T9.setTop (mkF m 184 #[.val (.int fl), .val (.long ka), .second, .val (.long kb), .second, .val (.long kc), .second, .val (.ref sv), .val (.int (0 : Int32)), .val (.int (1 : Int32)), .val (.int (0 : Int32)), .val (.long ka), .second, .val (.int (1 : Int32)), .val (.long ka), .second, .val (.long kb), .second, .val (.int (1 : Int32))] [(.int (1 : Int32))])) (fun tgt k => ?_) ?_
        · show Steps p.tables e below (T9.setTop (mkF m 176 #[.val (.int fl), .val (.long ka), .second, .val (.long kb), .second, .val (.long kc), .second, .val (.ref sv), .val (.int (0 : Int32)), .val (.int (1 : Int32)), .val (.int (0 : Int32)), .val (.long ka), .second, .val (.int (1 : Int32)), .val (.long ka), .second, .val (.long kb), .second, .val (.int (1 : Int32))] [(.int (0 : Int32)), (.int ((if (own_bf (own_upJ (own_upJ (fun _ => 0) 0 ka) 1 kb) ((own_up (own_up (fun _ => 0) 0 (0 : Int32)) 1 (1 : Int32)) 1) ((own_up (own_up (fun _ => 0) 0 (0 : Int32)) 1 (1 : Int32)) 0) 1 0) = 0 then (own_up (own_up (fun _ => 0) 0 ((own_up (own_up (fun _ => 0) 0 (0 : Int32)) 1 (1 : Int32)) 0)) 1 ((own_up (own_up (fun _ => 0) 0 (0 : Int32)) 1 (1 : Int32)) 1)) else (own_up (own_up (fun _ => 0) 0 ((own_up (own_up (fun _ => 0) 0 (0 : Int32)) 1 (1 : Int32)) 1)) 1 ((own_up (own_up (fun _ => 0) 0 (0 : Int32)) 1 (1 : Int32)) 0))) 1))])) tgt
          refine XS.icmpNo X9.here hx rfl (hb hby at_176) rfl (teq (by simp [own_bf, own_b10, own_b01, own_up, own_upJ, hc134])).2 ?_
          show Steps p.tables e below (T9.setTop (mkF m 179 #[.val (.int fl), .val (.long ka), .second, .val (.long kb), .second, .val (.long kc), .second, .val (.ref sv), .val (.int (0 : Int32)), .val (.int (1 : Int32)), .val (.int (0 : Int32)), .val (.long ka), .second, .val (.int (1 : Int32)), .val (.long ka), .second, .val (.long kb), .second, .val (.int (1 : Int32))] [])) tgt
          refine XS.iconst X9.here hx rfl (hb hby at_179) ?_
          show Steps p.tables e below (T9.setTop (mkF m 180 #[.val (.int fl), .val (.long ka), .second, .val (.long kb), .second, .val (.long kc), .second, .val (.ref sv), .val (.int (0 : Int32)), .val (.int (1 : Int32)), .val (.int (0 : Int32)), .val (.long ka), .second, .val (.int (1 : Int32)), .val (.long ka), .second, .val (.long kb), .second, .val (.int (1 : Int32))] [(.int (1 : Int32))])) tgt
          refine XS.goto X9.here hx rfl (pc0 := 180) (pc' := 184) rfl (hb hby at_180) (by decide) (by decide) ?_
          exact k
        refine own_retN X9 hx hlk (t := .boolean) (z' := (1 : Int32)) Bd.returns (by simp) rfl (hb hby at_184) ?_ (by decide) (by decide)
        show Q0 Z fl ka kb kc h0 n0 (some (.int (1 : Int32))) T9.heap _
        rw [K9]
        exact ⟨rfl, N9⟩
      · skip
        refine own_st (V := T6.setTop (mkF m 147 #[.val (.int fl), .val (.long ka), .second, .val (.long kb), .second, .val (.long kc), .second, .val (.ref sv), .val (.int (0 : Int32)), .val (.int (1 : Int32)), .val (.int (0 : Int32)), .val (.long ka), .second, .val (.int (1 : Int32)), .val (.long ka), .second, .val (.long kb), .second, .val (.int (0 : Int32))] [(.int (2 : Int32)), (.ref sv)])) (fun tgt k => ?_) ?_
        · show Steps p.tables e below (T6.setTop (mkF m 134 #[.val (.int fl), .val (.long ka), .second, .val (.long kb), .second, .val (.long kc), .second, .val (.ref sv), .val (.int (0 : Int32)), .val (.int (1 : Int32)), .val (.int (0 : Int32)), .val (.long ka), .second, .val (.int (1 : Int32)), .val (.long ka), .second, .val (.long kb), .second, .unset] [(.int (lcmpW kb ka))])) tgt
          refine XS.ifYes X6.here hx rfl (pc0 := 134) (pc' := 141) rfl (hb hby at_134) rfl ((if0 _ _).trans (flt (fun q => hc134 ((lw_lt kb ka).mp q))).2.1) (by decide) (by decide) ?_
          show Steps p.tables e below (T6.setTop (mkF m 141 #[.val (.int fl), .val (.long ka), .second, .val (.long kb), .second, .val (.long kc), .second, .val (.ref sv), .val (.int (0 : Int32)), .val (.int (1 : Int32)), .val (.int (0 : Int32)), .val (.long ka), .second, .val (.int (1 : Int32)), .val (.long ka), .second, .val (.long kb), .second, .unset] [])) tgt
          refine XS.iconst X6.here hx rfl (hb hby at_141) ?_
          show Steps p.tables e below (T6.setTop (mkF m 142 #[.val (.int fl), .val (.long ka), .second, .val (.long kb), .second, .val (.long kc), .second, .val (.ref sv), .val (.int (0 : Int32)), .val (.int (1 : Int32)), .val (.int (0 : Int32)), .val (.long ka), .second, .val (.int (1 : Int32)), .val (.long ka), .second, .val (.long kb), .second, .unset] [(.int (0 : Int32))])) tgt
          refine XS.istore X6.here hx rfl (hb hby at_142) rfl (l' := #[.val (.int fl), .val (.long ka), .second, .val (.long kb), .second, .val (.long kc), .second, .val (.ref sv), .val (.int (0 : Int32)), .val (.int (1 : Int32)), .val (.int (0 : Int32)), .val (.long ka), .second, .val (.int (1 : Int32)), .val (.long ka), .second, .val (.long kb), .second, .val (.int (0 : Int32))]) rfl ?_
          show Steps p.tables e below (T6.setTop (mkF m 144 #[.val (.int fl), .val (.long ka), .second, .val (.long kb), .second, .val (.long kc), .second, .val (.ref sv), .val (.int (0 : Int32)), .val (.int (1 : Int32)), .val (.int (0 : Int32)), .val (.long ka), .second, .val (.int (1 : Int32)), .val (.long ka), .second, .val (.long kb), .second, .val (.int (0 : Int32))] [])) tgt
          refine XS.aload X6.here hx rfl (hb hby at_144) rfl rfl ?_
          show Steps p.tables e below (T6.setTop (mkF m 146 #[.val (.int fl), .val (.long ka), .second, .val (.long kb), .second, .val (.long kc), .second, .val (.ref sv), .val (.int (0 : Int32)), .val (.int (1 : Int32)), .val (.int (0 : Int32)), .val (.long ka), .second, .val (.int (1 : Int32)), .val (.long ka), .second, .val (.long kb), .second, .val (.int (0 : Int32))] [(.ref sv)])) tgt
          refine XS.iconst X6.here hx rfl (hb hby at_146) ?_
          exact k
        obtain ⟨cq11, kq11, q11a, q11b, q11c⟩ := isOf hZ K6 E_sv_4
        obtain ⟨v11, _, ⟨T11, L11, k11, n11⟩, -, Xc11, ⟨Lc11, hQ11, l11, y11, z11⟩, st11⟩ := X6.virtualBack hx (y := (⟨"com/example/chainwright/chainwright/KeySort", "sort", "(I)V"⟩ : MethodName)) (z := (⟨"com/example/chainwright/chainwright/KeySort", "sort", "(I)V"⟩ : MethodName)) hown (mvT hZ (hw _ (List.mem_of_getElem? (i := 27) rfl))) (mvT hZ (hw _ (List.mem_of_getElem? (i := 28) rfl))) (notFace_of_selects (args := #[]) (mvT hZ (hw _ (List.mem_of_getElem? (i := 30) rfl)))) (mvT hZ (hw _ (List.mem_of_getElem? (i := 30) rfl))) (mvT hZ (hw _ (List.mem_of_getElem? (i := 29) rfl))) (by decide) (backOf (W := 0) (rm5 l Z a0 hw [] sv (2 : Int32) nu_2 ke_2 ro_2 (own_up (own_up (fun _ => 0) 0 (0 : Int32)) 1 (1 : Int32)) (own_upJ (own_upJ (fun _ => 0) 0 ka) 1 kb) (fun _ => 0) 0 1 T4.heap n0 Zs4 E_sv_4 F_sv_numbers_4 F_sv_keys_4 F_sv_room_4 g4_0 g4_1 A_ro_2_4 g2_3 g2_5 g2_6 g2_7 g2_8 ne_sv_nu_2 ne_sv_ro_2 rfl (by decide) (by decide) (by decide) (by decide)) hZ (hw _ (List.mem_of_getElem? (i := 31) rfl)) (hw _ (List.mem_of_getElem? (i := 2) rfl)) (by decide) (by decide)) q11a q11c (g := (mkF m 147 #[.val (.int fl), .val (.long ka), .second, .val (.long kb), .second, .val (.long kc), .second, .val (.ref sv), .val (.int (0 : Int32)), .val (.int (1 : Int32)), .val (.int (0 : Int32)), .val (.long ka), .second, .val (.int (1 : Int32)), .val (.long ka), .second, .val (.long kb), .second, .val (.int (0 : Int32))] [(.int (2 : Int32)), (.ref sv)])) rfl (by rw [hml]; rfl) (Steps.refl _) (argsL := [(.int (2 : Int32))]) (rest := []) (lenOf pd_0_0 rfl) rfl (by show 2 * 0 + _ ≤ _; exact Nat.le_of_eq rfl) (hb hby at_147) (fun _ _ => ⟨rfl, K6, (by decide : 4 + 0 ≤ _), (by decide : 9 + 0 ≤ _)⟩)
        dsimp only [Pt.U, Pt.locs, Pt.cells, Pt.slots] at Xc11 l11 y11 z11 st11 hQ11
        have X11 := own_cast Xc11 l11 y11 z11
        obtain ⟨ev11, N11q, K11, g11_0⟩ := hQ11
        rw [ev11] at st11
        have N11 := Fr.app N6 N11q
        have E_sv_11 := E_sv_4.keep K11
        have F_sv_numbers_11 := F_sv_numbers_4.keep K11 (ninS ne_sv_nu_2 (ninS ne_sv_ro_2 nin0))
        have F_sv_keys_11 := F_sv_keys_4.keep K11 (ninS ne_sv_nu_2 (ninS ne_sv_ro_2 nin0))
        have F_sv_room_11 := F_sv_room_4.keep K11 (ninS ne_sv_nu_2 (ninS ne_sv_ro_2 nin0))
        have A_ke_2_11 := g4_1.keep K11 (ninS (Ne.symm g2_6) (ninS g2_8 nin0))
        have Zs11 : n0 ≤ T11.heap.size := Nat.le_trans Zs4 K11.1
        refine own_st (fun tgt k => st11.trans k) ?_
        show own_Go p e below _ (T11.setTop (mkF m 150 #[.val (.int fl), .val (.long ka), .second, .val (.long kb), .second, .val (.long kc), .second, .val (.ref sv), .val (.int (0 : Int32)), .val (.int (1 : Int32)), .val (.int (0 : Int32)), .val (.long ka), .second, .val (.int (1 : Int32)), .val (.long ka), .second, .val (.long kb), .second, .val (.int (0 : Int32))] []))
        refine own_st (V := T11.setTop (mkF m 158 #[.val (.int fl), .val (.long ka), .second, .val (.long kb), .second, .val (.long kc), .second, .val (.ref sv), .val (.int (0 : Int32)), .val (.int (1 : Int32)), .val (.int (0 : Int32)), .val (.long ka), .second, .val (.int (1 : Int32)), .val (.long ka), .second, .val (.long kb), .second, .val (.int (0 : Int32))] [(.int (0 : Int32)), (.ref sv)])) (fun tgt k => ?_) ?_
        · show Steps p.tables e below (T11.setTop (mkF m 150 #[.val (.int fl), .val (.long ka), .second, .val (.long kb), .second, .val (.long kc), .second, .val (.ref sv), .val (.int (0 : Int32)), .val (.int (1 : Int32)), .val (.int (0 : Int32)), .val (.long ka), .second, .val (.int (1 : Int32)), .val (.long ka), .second, .val (.long kb), .second, .val (.int (0 : Int32))] [])) tgt
          refine XS.iload X11.here hx rfl (hb hby at_150) rfl ?_
          show Steps p.tables e below (T11.setTop (mkF m 152 #[.val (.int fl), .val (.long ka), .second, .val (.long kb), .second, .val (.long kc), .second, .val (.ref sv), .val (.int (0 : Int32)), .val (.int (1 : Int32)), .val (.int (0 : Int32)), .val (.long ka), .second, .val (.int (1 : Int32)), .val (.long ka), .second, .val (.long kb), .second, .val (.int (0 : Int32))] [(.int (1 : Int32))])) tgt
          refine XS.ifNo X11.here hx rfl (hb hby at_152) rfl ((if0 _ _).trans (feq (by decide : ¬ ((1 : Int32) = (0 : Int32)))).1) ?_
          show Steps p.tables e below (T11.setTop (mkF m 155 #[.val (.int fl), .val (.long ka), .second, .val (.long kb), .second, .val (.long kc), .second, .val (.ref sv), .val (.int (0 : Int32)), .val (.int (1 : Int32)), .val (.int (0 : Int32)), .val (.long ka), .second, .val (.int (1 : Int32)), .val (.long ka), .second, .val (.long kb), .second, .val (.int (0 : Int32))] [])) tgt
          refine XS.aload X11.here hx rfl (hb hby at_155) rfl rfl ?_
          show Steps p.tables e below (T11.setTop (mkF m 157 #[.val (.int fl), .val (.long ka), .second, .val (.long kb), .second, .val (.long kc), .second, .val (.ref sv), .val (.int (0 : Int32)), .val (.int (1 : Int32)), .val (.int (0 : Int32)), .val (.long ka), .second, .val (.int (1 : Int32)), .val (.long ka), .second, .val (.long kb), .second, .val (.int (0 : Int32))] [(.ref sv)])) tgt
          refine XS.iconst X11.here hx rfl (hb hby at_157) ?_
          exact k
        obtain ⟨cq12, kq12, q12a, q12b, q12c⟩ := isOf hZ rfl E_sv_11
        obtain ⟨v12, _, ⟨T12, L12, k12, n12⟩, -, Xc12, ⟨Lc12, hQ12, l12, y12, z12⟩, st12⟩ := X11.virtualBack hx (y := (⟨"com/example/chainwright/chainwright/KeySort", "number", "(I)I"⟩ : MethodName)) (z := (⟨"com/example/chainwright/chainwright/KeySort", "number", "(I)I"⟩ : MethodName)) hown (mvT hZ (hw _ (List.mem_of_getElem? (i := 22) rfl))) (mvT hZ (hw _ (List.mem_of_getElem? (i := 23) rfl))) (notFace_of_selects (args := #[]) (mvT hZ (hw _ (List.mem_of_getElem? (i := 25) rfl)))) (mvT hZ (hw _ (List.mem_of_getElem? (i := 25) rfl))) (mvT hZ (hw _ (List.mem_of_getElem? (i := 24) rfl))) (by decide) (backOf (W := 0) (rm4 l Z a0 hw [] sv (0 : Int32) nu_2 (if (own_bf (own_upJ (own_upJ (fun _ => 0) 0 ka) 1 kb) ((own_up (own_up (fun _ => 0) 0 (0 : Int32)) 1 (1 : Int32)) 1) ((own_up (own_up (fun _ => 0) 0 (0 : Int32)) 1 (1 : Int32)) 0) 1 0) = 0 then (own_up (own_up (fun _ => 0) 0 ((own_up (own_up (fun _ => 0) 0 (0 : Int32)) 1 (1 : Int32)) 0)) 1 ((own_up (own_up (fun _ => 0) 0 (0 : Int32)) 1 (1 : Int32)) 1)) else (own_up (own_up (fun _ => 0) 0 ((own_up (own_up (fun _ => 0) 0 (0 : Int32)) 1 (1 : Int32)) 1)) 1 ((own_up (own_up (fun _ => 0) 0 (0 : Int32)) 1 (1 : Int32)) 0))) 0 T11.heap n0 Zs11 F_sv_numbers_11 g11_0 (by decide) (by decide)) hZ (hw _ (List.mem_of_getElem? (i := 26) rfl)) (hw _ (List.mem_of_getElem? (i := 2) rfl)) (by decide) (by decide)) q12a q12c (g := (mkF m 158 #[.val (.int fl), .val (.long ka), .second, .val (.long kb), .second, .val (.long kc), .second, .val (.ref sv), .val (.int (0 : Int32)), .val (.int (1 : Int32)), .val (.int (0 : Int32)), .val (.long ka), .second, .val (.int (1 : Int32)), .val (.long ka), .second, .val (.long kb), .second, .val (.int (0 : Int32))] [(.int (0 : Int32)), (.ref sv)])) rfl (by rw [hml]; rfl) (Steps.refl _) (argsL := [(.int (0 : Int32))]) (rest := []) (lenOf pd_0_2 rfl) rfl (by show 2 * 0 + _ ≤ _; exact Nat.le_of_eq rfl) (hb hby at_158) (fun _ _ => ⟨rfl, rfl, (by decide : 4 + 0 ≤ _), (by decide : 9 + 0 ≤ _)⟩)
        dsimp only [Pt.U, Pt.locs, Pt.cells, Pt.slots] at Xc12 l12 y12 z12 st12 hQ12
        have X12 := own_cast Xc12 l12 y12 z12
        obtain ⟨ev12, N12q, K12⟩ := hQ12
        rw [ev12] at st12
        have N12 := Fr.app N11 N12q
        refine own_st (fun tgt k => st12.trans k) ?_
        show own_Go p e below _ (T12.setTop (mkF m 161 #[.val (.int fl), .val (.long ka), .second, .val (.long kb), .second, .val (.long kc), .second, .val (.ref sv), .val (.int (0 : Int32)), .val (.int (1 : Int32)), .val (.int (0 : Int32)), .val (.long ka), .second, .val (.int (1 : Int32)), .val (.long ka), .second, .val (.long kb), .second, .val (.int (0 : Int32))] [(.int ((if (own_bf (own_upJ (own_upJ (fun _ => 0) 0 ka) 1 kb) ((own_up (own_up (fun _ => 0) 0 (0 : Int32)) 1 (1 : Int32)) 1) ((own_up (own_up (fun _ => 0) 0 (0 : Int32)) 1 (1 : Int32)) 0) 1 0) = 0 then (own_up (own_up (fun _ => 0) 0 ((own_up (own_up (fun _ => 0) 0 (0 : Int32)) 1 (1 : Int32)) 0)) 1 ((own_up (own_up (fun _ => 0) 0 (0 : Int32)) 1 (1 : Int32)) 1)) else (own_up (own_up (fun _ => 0) 0 ((own_up (own_up (fun _ => 0) 0 (0 : Int32)) 1 (1 : Int32)) 1)) 1 ((own_up (own_up (fun _ => 0) 0 (0 : Int32)) 1 (1 : Int32)) 0))) 0))]))
        refine own_st (V := T12.setTop (mkF m 169 #[.val (.int fl), .val (.long ka), .second, .val (.long kb), .second, .val (.long kc), .second, .val (.ref sv), .val (.int (0 : Int32)), .val (.int (1 : Int32)), .val (.int (0 : Int32)), .val (.long ka), .second, .val (.int (1 : Int32)), .val (.long ka), .second, .val (.long kb), .second, .val (.int (0 : Int32))] [(.int (1 : Int32)), (.ref sv)])) (fun tgt k => ?_) ?_
        · show Steps p.tables e below (T12.setTop (mkF m 161 #[.val (.int fl), .val (.long ka), .second, .val (.long kb), .second, .val (.long kc), .second, .val (.ref sv), .val (.int (0 : Int32)), .val (.int (1 : Int32)), .val (.int (0 : Int32)), .val (.long ka), .second, .val (.int (1 : Int32)), .val (.long ka), .second, .val (.long kb), .second, .val (.int (0 : Int32))] [(.int ((if (own_bf (own_upJ (own_upJ (fun _ => 0) 0 ka) 1 kb) ((own_up (own_up (fun _ => 0) 0 (0 : Int32)) 1 (1 : Int32)) 1) ((own_up (own_up (fun _ => 0) 0 (0 : Int32)) 1 (1 : Int32)) 0) 1 0) = 0 then (own_up (own_up (fun _ => 0) 0 ((own_up (own_up (fun _ => 0) 0 (0 : Int32)) 1 (1 : Int32)) 0)) 1 ((own_up (own_up (fun _ => 0) 0 (0 : Int32)) 1 (1 : Int32)) 1)) else (own_up (own_up (fun _ => 0) 0 ((own_up (own_up (fun _ => 0) 0 (0 : Int32)) 1 (1 : Int32)) 1)) 1 ((own_up (own_up (fun _ => 0) 0 (0 : Int32)) 1 (1 : Int32)) 0))) 0))])) tgt
          refine XS.iload X12.here hx rfl (hb hby at_161) rfl ?_
          show Steps p.tables e below (T12.setTop (mkF m 163 #[.val (.int fl), .val (.long ka), .second, .val (.long kb), .second, .val (.long kc), .second, .val (.ref sv), .val (.int (0 : Int32)), .val (.int (1 : Int32)), .val (.int (0 : Int32)), .val (.long ka), .second, .val (.int (1 : Int32)), .val (.long ka), .second, .val (.long kb), .second, .val (.int (0 : Int32))] [(.int (0 : Int32)), (.int ((if (own_bf (own_upJ (own_upJ (fun _ => 0) 0 ka) 1 kb) ((own_up (own_up (fun _ => 0) 0 (0 : Int32)) 1 (1 : Int32)) 1) ((own_up (own_up (fun _ => 0) 0 (0 : Int32)) 1 (1 : Int32)) 0) 1 0) = 0 then (own_up (own_up (fun _ => 0) 0 ((own_up (own_up (fun _ => 0) 0 (0 : Int32)) 1 (1 : Int32)) 0)) 1 ((own_up (own_up (fun _ => 0) 0 (0 : Int32)) 1 (1 : Int32)) 1)) else (own_up (own_up (fun _ => 0) 0 ((own_up (own_up (fun _ => 0) 0 (0 : Int32)) 1 (1 : Int32)) 1)) 1 ((own_up (own_up (fun _ => 0) 0 (0 : Int32)) 1 (1 : Int32)) 0))) 0))])) tgt
          refine XS.icmpNo X12.here hx rfl (hb hby at_163) rfl (teq (by simp [own_bf, own_b10, own_b01, own_up, own_upJ, hc134])).2 ?_
          show Steps p.tables e below (T12.setTop (mkF m 166 #[.val (.int fl), .val (.long ka), .second, .val (.long kb), .second, .val (.long kc), .second, .val (.ref sv), .val (.int (0 : Int32)), .val (.int (1 : Int32)), .val (.int (0 : Int32)), .val (.long ka), .second, .val (.int (1 : Int32)), .val (.long ka), .second, .val (.long kb), .second, .val (.int (0 : Int32))] [])) tgt
          refine XS.aload X12.here hx rfl (hb hby at_166) rfl rfl ?_
          show Steps p.tables e below (T12.setTop (mkF m 168 #[.val (.int fl), .val (.long ka), .second, .val (.long kb), .second, .val (.long kc), .second, .val (.ref sv), .val (.int (0 : Int32)), .val (.int (1 : Int32)), .val (.int (0 : Int32)), .val (.long ka), .second, .val (.int (1 : Int32)), .val (.long ka), .second, .val (.long kb), .second, .val (.int (0 : Int32))] [(.ref sv)])) tgt
          refine XS.iconst X12.here hx rfl (hb hby at_168) ?_
          exact k
        obtain ⟨cq13, kq13, q13a, q13b, q13c⟩ := isOf hZ K12 E_sv_11
        obtain ⟨v13, _, ⟨T13, L13, k13, n13⟩, -, Xc13, ⟨Lc13, hQ13, l13, y13, z13⟩, st13⟩ := X12.virtualBack hx (y := (⟨"com/example/chainwright/chainwright/KeySort", "number", "(I)I"⟩ : MethodName)) (z := (⟨"com/example/chainwright/chainwright/KeySort", "number", "(I)I"⟩ : MethodName)) hown (mvT hZ (hw _ (List.mem_of_getElem? (i := 22) rfl))) (mvT hZ (hw _ (List.mem_of_getElem? (i := 23) rfl))) (notFace_of_selects (args := #[]) (mvT hZ (hw _ (List.mem_of_getElem? (i := 25) rfl)))) (mvT hZ (hw _ (List.mem_of_getElem? (i := 25) rfl))) (mvT hZ (hw _ (List.mem_of_getElem? (i := 24) rfl))) (by decide) (backOf (W := 0) (rm4 l Z a0 hw [] sv (1 : Int32) nu_2 (if (own_bf (own_upJ (own_upJ (fun _ => 0) 0 ka) 1 kb) ((own_up (own_up (fun _ => 0) 0 (0 : Int32)) 1 (1 : Int32)) 1) ((own_up (own_up (fun _ => 0) 0 (0 : Int32)) 1 (1 : Int32)) 0) 1 0) = 0 then (own_up (own_up (fun _ => 0) 0 ((own_up (own_up (fun _ => 0) 0 (0 : Int32)) 1 (1 : Int32)) 0)) 1 ((own_up (own_up (fun _ => 0) 0 (0 : Int32)) 1 (1 : Int32)) 1)) else (own_up (own_up (fun _ => 0) 0 ((own_up (own_up (fun _ => 0) 0 (0 : Int32)) 1 (1 : Int32)) 1)) 1 ((own_up (own_up (fun _ => 0) 0 (0 : Int32)) 1 (1 : Int32)) 0))) 1 T11.heap n0 Zs11 F_sv_numbers_11 g11_0 (by decide) (by decide)) hZ (hw _ (List.mem_of_getElem? (i := 26) rfl)) (hw _ (List.mem_of_getElem? (i := 2) rfl)) (by decide) (by decide)) q13a q13c (g := (mkF m 169 #[.val (.int fl), .val (.long ka), .second, .val (.long kb), .second, .val (.long kc), .second, .val (.ref sv), .val (.int (0 : Int32)), .val (.int (1 : Int32)), .val (.int (0 : Int32)), .val (.long ka), .second, .val (.int (1 : Int32)), .val (.long ka), .second, .val (.long kb), .second, .val (.int (0 : Int32))] [(.int (1 : Int32)), (.ref sv)])) rfl (by rw [hml]; rfl) (Steps.refl _) (argsL := [(.int (1 : Int32))]) (rest := []) (lenOf pd_0_2 rfl) rfl (by show 2 * 0 + _ ≤ _; exact Nat.le_of_eq rfl) (hb hby at_169) (fun _ _ => ⟨rfl, K12, (by decide : 4 + 0 ≤ _), (by decide : 9 + 0 ≤ _)⟩)
        dsimp only [Pt.U, Pt.locs, Pt.cells, Pt.slots] at Xc13 l13 y13 z13 st13 hQ13
        have X13 := own_cast Xc13 l13 y13 z13
        obtain ⟨ev13, N13q, K13⟩ := hQ13
        rw [ev13] at st13
        have N13 := Fr.app N12 N13q
        refine own_st (fun tgt k => st13.trans k) ?_
        show own_Go p e below _ (T13.setTop (mkF m 172 #[.val (.int fl), .val (.long ka), .second, .val (.long kb), .second, .val (.long kc), .second, .val (.ref sv), .val (.int (0 : Int32)), .val (.int (1 : Int32)), .val (.int (0 : Int32)), .val (.long ka), .second, .val (.int (1 : Int32)), .val (.long ka), .second, .val (.long kb), .second, .val (.int (0 : Int32))] [(.int ((if (own_bf (own_upJ (own_upJ (fun _ => 0) 0 ka) 1 kb) ((own_up (own_up (fun _ => 0) 0 (0 : Int32)) 1 (1 : Int32)) 1) ((own_up (own_up (fun _ => 0) 0 (0 : Int32)) 1 (1 : Int32)) 0) 1 0) = 0 then (own_up (own_up (fun _ => 0) 0 ((own_up (own_up (fun _ => 0) 0 (0 : Int32)) 1 (1 : Int32)) 0)) 1 ((own_up (own_up (fun _ => 0) 0 (0 : Int32)) 1 (1 : Int32)) 1)) else (own_up (own_up (fun _ => 0) 0 ((own_up (own_up (fun _ => 0) 0 (0 : Int32)) 1 (1 : Int32)) 1)) 1 ((own_up (own_up (fun _ => 0) 0 (0 : Int32)) 1 (1 : Int32)) 0))) 1))]))
        refine own_st (V := T13.setTop (mkF m 176 #[.val (.int fl), .val (.long ka), .second, .val (.long kb), .second, .val (.long kc), .second, .val (.ref sv), .val (.int (0 : Int32)), .val (.int (1 : Int32)), .val (.int (0 : Int32)), .val (.long ka), .second, .val (.int (1 : Int32)), .val (.long ka), .second, .val (.long kb), .second, .val (.int (0 : Int32))] [(.int ((1 : Int32) - (0 : Int32))), (.int ((if (own_bf (own_upJ (own_upJ (fun _ => 0) 0 ka) 1 kb) ((own_up (own_up (fun _ => 0) 0 (0 : Int32)) 1 (1 : Int32)) 1) ((own_up (own_up (fun _ => 0) 0 (0 : Int32)) 1 (1 : Int32)) 0) 1 0) = 0 then (own_up (own_up (fun _ => 0) 0 ((own_up (own_up (fun _ => 0) 0 (0 : Int32)) 1 (1 : Int32)) 0)) 1 ((own_up (own_up (fun _ => 0) 0 (0 : Int32)) 1 (1 : Int32)) 1)) else (own_up (own_up (fun _ => 0) 0 ((own_up (own_up (fun _ => 0) 0 (0 : Int32)) 1 (1 : Int32)) 1)) 1 ((own_up (own_up (fun _ => 0) 0 (0 : Int32)) 1 (1 : Int32)) 0))) 1))])) (fun tgt k => ?_) ?_
        · show Steps p.tables e below (T13.setTop (mkF m 172 #[.val (.int fl), .val (.long ka), .second, .val (.long kb), .second, .val (.long kc), .second, .val (.ref sv), .val (.int (0 : Int32)), .val (.int (1 : Int32)), .val (.int (0 : Int32)), .val (.long ka), .second, .val (.int (1 : Int32)), .val (.long ka), .second, .val (.long kb), .second, .val (.int (0 : Int32))] [(.int ((if (own_bf (own_upJ (own_upJ (fun _ => 0) 0 ka) 1 kb) ((own_up (own_up (fun _ => 0) 0 (0 : Int32)) 1 (1 : Int32)) 1) ((own_up (own_up (fun _ => 0) 0 (0 : Int32)) 1 (1 : Int32)) 0) 1 0) = 0 then (own_up (own_up (fun _ => 0) 0 ((own_up (own_up (fun _ => 0) 0 (0 : Int32)) 1 (1 : Int32)) 0)) 1 ((own_up (own_up (fun _ => 0) 0 (0 : Int32)) 1 (1 : Int32)) 1)) else (own_up (own_up (fun _ => 0) 0 ((own_up (own_up (fun _ => 0) 0 (0 : Int32)) 1 (1 : Int32)) 1)) 1 ((own_up (own_up (fun _ => 0) 0 (0 : Int32)) 1 (1 : Int32)) 0))) 1))])) tgt
          refine XS.iconst X13.here hx rfl (hb hby at_172) ?_
          show Steps p.tables e below (T13.setTop (mkF m 173 #[.val (.int fl), .val (.long ka), .second, .val (.long kb), .second, .val (.long kc), .second, .val (.ref sv), .val (.int (0 : Int32)), .val (.int (1 : Int32)), .val (.int (0 : Int32)), .val (.long ka), .second, .val (.int (1 : Int32)), .val (.long ka), .second, .val (.long kb), .second, .val (.int (0 : Int32))] [(.int (1 : Int32)), (.int ((if (own_bf (own_upJ (own_upJ (fun _ => 0) 0 ka) 1 kb) ((own_up (own_up (fun _ => 0) 0 (0 : Int32)) 1 (1 : Int32)) 1) ((own_up (own_up (fun _ => 0) 0 (0 : Int32)) 1 (1 : Int32)) 0) 1 0) = 0 then (own_up (own_up (fun _ => 0) 0 ((own_up (own_up (fun _ => 0) 0 (0 : Int32)) 1 (1 : Int32)) 0)) 1 ((own_up (own_up (fun _ => 0) 0 (0 : Int32)) 1 (1 : Int32)) 1)) else (own_up (own_up (fun _ => 0) 0 ((own_up (own_up (fun _ => 0) 0 (0 : Int32)) 1 (1 : Int32)) 1)) 1 ((own_up (own_up (fun _ => 0) 0 (0 : Int32)) 1 (1 : Int32)) 0))) 1))])) tgt
          refine XS.iload X13.here hx rfl (hb hby at_173) rfl ?_
          show Steps p.tables e below (T13.setTop (mkF m 175 #[.val (.int fl), .val (.long ka), .second, .val (.long kb), .second, .val (.long kc), .second, .val (.ref sv), .val (.int (0 : Int32)), .val (.int (1 : Int32)), .val (.int (0 : Int32)), .val (.long ka), .second, .val (.int (1 : Int32)), .val (.long ka), .second, .val (.long kb), .second, .val (.int (0 : Int32))] [(.int (0 : Int32)), (.int (1 : Int32)), (.int ((if (own_bf (own_upJ (own_upJ (fun _ => 0) 0 ka) 1 kb) ((own_up (own_up (fun _ => 0) 0 (0 : Int32)) 1 (1 : Int32)) 1) ((own_up (own_up (fun _ => 0) 0 (0 : Int32)) 1 (1 : Int32)) 0) 1 0) = 0 then (own_up (own_up (fun _ => 0) 0 ((own_up (own_up (fun _ => 0) 0 (0 : Int32)) 1 (1 : Int32)) 0)) 1 ((own_up (own_up (fun _ => 0) 0 (0 : Int32)) 1 (1 : Int32)) 1)) else (own_up (own_up (fun _ => 0) 0 ((own_up (own_up (fun _ => 0) 0 (0 : Int32)) 1 (1 : Int32)) 1)) 1 ((own_up (own_up (fun _ => 0) 0 (0 : Int32)) 1 (1 : Int32)) 0))) 1))])) tgt
          refine XS.isub X13.here hx rfl (hb hby at_175) rfl ?_
          exact k
        rw [show ((1 : Int32) - (0 : Int32)) = (1 : Int32) from by decide]
        refine own_st (V := T13.setTop (mkF m 184 #[.val (.int fl), .val (.long ka), .second, .val (.long kb), .second, .val (.long kc), .second, .val (.ref sv), .val (.int (0 : Int32)), .val (.int (1 : Int32)), .val (.int (0 : Int32)), .val (.long ka), .second, .val (.int (1 : Int32)), .val (.long ka), .second, .val (.long kb), .second, .val (.int (0 : Int32))] [(.int (1 : Int32))])) (fun tgt k => ?_) ?_
        · show Steps p.tables e below (T13.setTop (mkF m 176 #[.val (.int fl), .val (.long ka), .second, .val (.long kb), .second, .val (.long kc), .second, .val (.ref sv), .val (.int (0 : Int32)), .val (.int (1 : Int32)), .val (.int (0 : Int32)), .val (.long ka), .second, .val (.int (1 : Int32)), .val (.long ka), .second, .val (.long kb), .second, .val (.int (0 : Int32))] [(.int (1 : Int32)), (.int ((if (own_bf (own_upJ (own_upJ (fun _ => 0) 0 ka) 1 kb) ((own_up (own_up (fun _ => 0) 0 (0 : Int32)) 1 (1 : Int32)) 1) ((own_up (own_up (fun _ => 0) 0 (0 : Int32)) 1 (1 : Int32)) 0) 1 0) = 0 then (own_up (own_up (fun _ => 0) 0 ((own_up (own_up (fun _ => 0) 0 (0 : Int32)) 1 (1 : Int32)) 0)) 1 ((own_up (own_up (fun _ => 0) 0 (0 : Int32)) 1 (1 : Int32)) 1)) else (own_up (own_up (fun _ => 0) 0 ((own_up (own_up (fun _ => 0) 0 (0 : Int32)) 1 (1 : Int32)) 1)) 1 ((own_up (own_up (fun _ => 0) 0 (0 : Int32)) 1 (1 : Int32)) 0))) 1))])) tgt
          refine XS.icmpNo X13.here hx rfl (hb hby at_176) rfl (teq (by simp [own_bf, own_b10, own_b01, own_up, own_upJ, hc134])).2 ?_
          show Steps p.tables e below (T13.setTop (mkF m 179 #[.val (.int fl), .val (.long ka), .second, .val (.long kb), .second, .val (.long kc), .second, .val (.ref sv), .val (.int (0 : Int32)), .val (.int (1 : Int32)), .val (.int (0 : Int32)), .val (.long ka), .second, .val (.int (1 : Int32)), .val (.long ka), .second, .val (.long kb), .second, .val (.int (0 : Int32))] [])) tgt
          refine XS.iconst X13.here hx rfl (hb hby at_179) ?_
          show Steps p.tables e below (T13.setTop (mkF m 180 #[.val (.int fl), .val (.long ka), .second, .val (.long kb), .second, .val (.long kc), .second, .val (.ref sv), .val (.int (0 : Int32)), .val (.int (1 : Int32)), .val (.int (0 : Int32)), .val (.long ka), .second, .val (.int (1 : Int32)), .val (.long ka), .second, .val (.long kb), .second, .val (.int (0 : Int32))] [(.int (1 : Int32))])) tgt
          refine XS.goto X13.here hx rfl (pc0 := 180) (pc' := 184) rfl (hb hby at_180) (by decide) (by decide) ?_
          exact k
        refine own_retN X13 hx hlk (t := .boolean) (z' := (1 : Int32)) Bd.returns (by simp) rfl (hb hby at_184) ?_ (by decide) (by decide)
        show Q0 Z fl ka kb kc h0 n0 (some (.int (1 : Int32))) T13.heap _
        rw [K13]
        exact ⟨rfl, N13⟩
    · skip
      refine own_st (V := T2.setTop (mkF m 40 #[.val (.int fl), .val (.long ka), .second, .val (.long kb), .second, .val (.long kc), .second, .val (.ref sv), .val (.int (0 : Int32)), .val (.int (1 : Int32)), .val (.int (1 : Int32)), .unset, .unset, .unset, .unset, .unset, .unset, .unset, .unset] [(.long ka), (.int (0 : Int32)), (.int (0 : Int32)), (.ref sv)])) (fun tgt k => ?_) ?_
      · show Steps p.tables e below (T2.setTop (mkF m 24 #[.val (.int fl), .val (.long ka), .second, .val (.long kb), .second, .val (.long kc), .second, .val (.ref sv), .val (.int (0 : Int32)), .val (.int (1 : Int32)), .unset, .unset, .unset, .unset, .unset, .unset, .unset, .unset, .unset] [(.int (fl &&& (2 : Int32)))])) tgt
        refine XS.ifNo X2.here hx rfl (hb hby at_24) rfl ((if0 _ _).trans (feq hc24).1) ?_
        show Steps p.tables e below (T2.setTop (mkF m 27 #[.val (.int fl), .val (.long ka), .second, .val (.long kb), .second, .val (.long kc), .second, .val (.ref sv), .val (.int (0 : Int32)), .val (.int (1 : Int32)), .unset, .unset, .unset, .unset, .unset, .unset, .unset, .unset, .unset] [])) tgt
        refine XS.iconst X2.here hx rfl (hb hby at_27) ?_
        show Steps p.tables e below (T2.setTop (mkF m 28 #[.val (.int fl), .val (.long ka), .second, .val (.long kb), .second, .val (.long kc), .second, .val (.ref sv), .val (.int (0 : Int32)), .val (.int (1 : Int32)), .unset, .unset, .unset, .unset, .unset, .unset, .unset, .unset, .unset] [(.int (1 : Int32))])) tgt
        refine XS.goto X2.here hx rfl (pc0 := 28) (pc' := 32) rfl (hb hby at_28) (by decide) (by decide) ?_
        show Steps p.tables e below (T2.setTop (mkF m 32 #[.val (.int fl), .val (.long ka), .second, .val (.long kb), .second, .val (.long kc), .second, .val (.ref sv), .val (.int (0 : Int32)), .val (.int (1 : Int32)), .unset, .unset, .unset, .unset, .unset, .unset, .unset, .unset, .unset] [(.int (1 : Int32))])) tgt
        refine XS.istore X2.here hx rfl (hb hby at_32) rfl (l' := #[.val (.int fl), .val (.long ka), .second, .val (.long kb), .second, .val (.long kc), .second, .val (.ref sv), .val (.int (0 : Int32)), .val (.int (1 : Int32)), .val (.int (1 : Int32)), .unset, .unset, .unset, .unset, .unset, .unset, .unset, .unset]) rfl ?_
        show Steps p.tables e below (T2.setTop (mkF m 34 #[.val (.int fl), .val (.long ka), .second, .val (.long kb), .second, .val (.long kc), .second, .val (.ref sv), .val (.int (0 : Int32)), .val (.int (1 : Int32)), .val (.int (1 : Int32)), .unset, .unset, .unset, .unset, .unset, .unset, .unset, .unset] [])) tgt
        refine XS.aload X2.here hx rfl (hb hby at_34) rfl rfl ?_
        show Steps p.tables e below (T2.setTop (mkF m 36 #[.val (.int fl), .val (.long ka), .second, .val (.long kb), .second, .val (.long kc), .second, .val (.ref sv), .val (.int (0 : Int32)), .val (.int (1 : Int32)), .val (.int (1 : Int32)), .unset, .unset, .unset, .unset, .unset, .unset, .unset, .unset] [(.ref sv)])) tgt
        refine XS.iconst X2.here hx rfl (hb hby at_36) ?_
        show Steps p.tables e below (T2.setTop (mkF m 37 #[.val (.int fl), .val (.long ka), .second, .val (.long kb), .second, .val (.long kc), .second, .val (.ref sv), .val (.int (0 : Int32)), .val (.int (1 : Int32)), .val (.int (1 : Int32)), .unset, .unset, .unset, .unset, .unset, .unset, .unset, .unset] [(.int (0 : Int32)), (.ref sv)])) tgt
        refine XS.iload X2.here hx rfl (hb hby at_37) rfl ?_
        show Steps p.tables e below (T2.setTop (mkF m 39 #[.val (.int fl), .val (.long ka), .second, .val (.long kb), .second, .val (.long kc), .second, .val (.ref sv), .val (.int (0 : Int32)), .val (.int (1 : Int32)), .val (.int (1 : Int32)), .unset, .unset, .unset, .unset, .unset, .unset, .unset, .unset] [(.int (0 : Int32)), (.int (0 : Int32)), (.ref sv)])) tgt
        refine XS.lloadN X2.here hx rfl (hb hby at_39) rfl ?_
        exact k
      obtain ⟨cq15, kq15, q15a, q15b, q15c⟩ := isOf hZ rfl g2_9
      obtain ⟨v15, _, ⟨T15, L15, k15, n15⟩, -, Xc15, ⟨Lc15, hQ15, l15, y15, z15⟩, st15⟩ := X2.virtualBack hx (y := (⟨"com/example/chainwright/chainwright/KeySort", "put", "(IIJ)V"⟩ : MethodName)) (z := (⟨"com/example/chainwright/chainwright/KeySort", "put", "(IIJ)V"⟩ : MethodName)) hown (mvT hZ (hw _ (List.mem_of_getElem? (i := 17) rfl))) (mvT hZ (hw _ (List.mem_of_getElem? (i := 18) rfl))) (notFace_of_selects (args := #[]) (mvT hZ (hw _ (List.mem_of_getElem? (i := 20) rfl)))) (mvT hZ (hw _ (List.mem_of_getElem? (i := 20) rfl))) (mvT hZ (hw _ (List.mem_of_getElem? (i := 19) rfl))) (by decide) (backOf (W := 0) (rm3 l Z a0 hw [] sv (0 : Int32) (0 : Int32) ka nu_2 ke_2 (fun _ => 0) (fun _ => 0) 0 0 T2.heap n0 Zs2 g2_10 g2_11 g2_13 g2_14 g2_3 g2_4 g2_6 ne_sv_nu_2 ne_sv_ke_2 (by decide) (by decide) (by decide) (by decide)) hZ (hw _ (List.mem_of_getElem? (i := 21) rfl)) (hw _ (List.mem_of_getElem? (i := 2) rfl)) (by decide) (by decide)) q15a q15c (g := (mkF m 40 #[.val (.int fl), .val (.long ka), .second, .val (.long kb), .second, .val (.long kc), .second, .val (.ref sv), .val (.int (0 : Int32)), .val (.int (1 : Int32)), .val (.int (1 : Int32)), .unset, .unset, .unset, .unset, .unset, .unset, .unset, .unset] [(.long ka), (.int (0 : Int32)), (.int (0 : Int32)), (.ref sv)])) rfl (by rw [hml]; rfl) (Steps.refl _) (argsL := [(.int (0 : Int32)), (.int (0 : Int32)), (.long ka)]) (rest := []) (lenOf pd_0_1 rfl) rfl (by show 2 * 0 + _ ≤ _; exact Nat.le_of_eq rfl) (hb hby at_40) (fun _ _ => ⟨rfl, rfl, (by decide : 4 + 0 ≤ _), (by decide : 9 + 0 ≤ _)⟩)
      dsimp only [Pt.U, Pt.locs, Pt.cells, Pt.slots] at Xc15 l15 y15 z15 st15 hQ15
      have X15 := own_cast Xc15 l15 y15 z15
      obtain ⟨ev15, N15q, K15, g15_0, g15_1⟩ := hQ15
      rw [ev15] at st15
      have N15 := Fr.app N2 N15q
      have E_sv_15 := g2_9.keep K15
      have F_sv_numbers_15 := g2_10.keep K15 (ninS ne_sv_nu_2 (ninS ne_sv_ke_2 nin0))
      have F_sv_keys_15 := g2_11.keep K15 (ninS ne_sv_nu_2 (ninS ne_sv_ke_2 nin0))
      have F_sv_room_15 := g2_12.keep K15 (ninS ne_sv_nu_2 (ninS ne_sv_ke_2 nin0))
      have A_ro_2_15 := g2_15.keep K15 (ninS (Ne.symm g2_7) (ninS (Ne.symm g2_8) nin0))
      have Zs15 : n0 ≤ T15.heap.size := Nat.le_trans Zs2 K15.1
      refine own_st (fun tgt k => st15.trans k) ?_
      show own_Go p e below _ (T15.setTop (mkF m 43 #[.val (.int fl), .val (.long ka), .second, .val (.long kb), .second, .val (.long kc), .second, .val (.ref sv), .val (.int (0 : Int32)), .val (.int (1 : Int32)), .val (.int (1 : Int32)), .unset, .unset, .unset, .unset, .unset, .unset, .unset, .unset] []))
      refine own_st (V := T15.setTop (mkF m 49 #[.val (.int fl), .val (.long ka), .second, .val (.long kb), .second, .val (.long kc), .second, .val (.ref sv), .val (.int (0 : Int32)), .val (.int (1 : Int32)), .val (.int (1 : Int32)), .unset, .unset, .unset, .unset, .unset, .unset, .unset, .unset] [(.long kb), (.int (1 : Int32)), (.int (1 : Int32)), (.ref sv)])) (fun tgt k => ?_) ?_
      · show Steps p.tables e below (T15.setTop (mkF m 43 #[.val (.int fl), .val (.long ka), .second, .val (.long kb), .second, .val (.long kc), .second, .val (.ref sv), .val (.int (0 : Int32)), .val (.int (1 : Int32)), .val (.int (1 : Int32)), .unset, .unset, .unset, .unset, .unset, .unset, .unset, .unset] [])) tgt
        refine XS.aload X15.here hx rfl (hb hby at_43) rfl rfl ?_
        show Steps p.tables e below (T15.setTop (mkF m 45 #[.val (.int fl), .val (.long ka), .second, .val (.long kb), .second, .val (.long kc), .second, .val (.ref sv), .val (.int (0 : Int32)), .val (.int (1 : Int32)), .val (.int (1 : Int32)), .unset, .unset, .unset, .unset, .unset, .unset, .unset, .unset] [(.ref sv)])) tgt
        refine XS.iconst X15.here hx rfl (hb hby at_45) ?_
        show Steps p.tables e below (T15.setTop (mkF m 46 #[.val (.int fl), .val (.long ka), .second, .val (.long kb), .second, .val (.long kc), .second, .val (.ref sv), .val (.int (0 : Int32)), .val (.int (1 : Int32)), .val (.int (1 : Int32)), .unset, .unset, .unset, .unset, .unset, .unset, .unset, .unset] [(.int (1 : Int32)), (.ref sv)])) tgt
        refine XS.iload X15.here hx rfl (hb hby at_46) rfl ?_
        show Steps p.tables e below (T15.setTop (mkF m 48 #[.val (.int fl), .val (.long ka), .second, .val (.long kb), .second, .val (.long kc), .second, .val (.ref sv), .val (.int (0 : Int32)), .val (.int (1 : Int32)), .val (.int (1 : Int32)), .unset, .unset, .unset, .unset, .unset, .unset, .unset, .unset] [(.int (1 : Int32)), (.int (1 : Int32)), (.ref sv)])) tgt
        refine XS.lloadN X15.here hx rfl (hb hby at_48) rfl ?_
        exact k
      obtain ⟨cq16, kq16, q16a, q16b, q16c⟩ := isOf hZ rfl E_sv_15
      obtain ⟨v16, _, ⟨T16, L16, k16, n16⟩, -, Xc16, ⟨Lc16, hQ16, l16, y16, z16⟩, st16⟩ := X15.virtualBack hx (y := (⟨"com/example/chainwright/chainwright/KeySort", "put", "(IIJ)V"⟩ : MethodName)) (z := (⟨"com/example/chainwright/chainwright/KeySort", "put", "(IIJ)V"⟩ : MethodName)) hown (mvT hZ (hw _ (List.mem_of_getElem? (i := 17) rfl))) (mvT hZ (hw _ (List.mem_of_getElem? (i := 18) rfl))) (notFace_of_selects (args := #[]) (mvT hZ (hw _ (List.mem_of_getElem? (i := 20) rfl)))) (mvT hZ (hw _ (List.mem_of_getElem? (i := 20) rfl))) (mvT hZ (hw _ (List.mem_of_getElem? (i := 19) rfl))) (by decide) (backOf (W := 0) (rm3 l Z a0 hw [] sv (1 : Int32) (1 : Int32) kb nu_2 ke_2 (own_up (fun _ => 0) 0 (0 : Int32)) (own_upJ (fun _ => 0) 0 ka) 1 1 T15.heap n0 Zs15 F_sv_numbers_15 F_sv_keys_15 g15_0 g15_1 g2_3 g2_4 g2_6 ne_sv_nu_2 ne_sv_ke_2 (by decide) (by decide) (by decide) (by decide)) hZ (hw _ (List.mem_of_getElem? (i := 21) rfl)) (hw _ (List.mem_of_getElem? (i := 2) rfl)) (by decide) (by decide)) q16a q16c (g := (mkF m 49 #[.val (.int fl), .val (.long ka), .second, .val (.long kb), .second, .val (.long kc), .second, .val (.ref sv), .val (.int (0 : Int32)), .val (.int (1 : Int32)), .val (.int (1 : Int32)), .unset, .unset, .unset, .unset, .unset, .unset, .unset, .unset] [(.long kb), (.int (1 : Int32)), (.int (1 : Int32)), (.ref sv)])) rfl (by rw [hml]; rfl) (Steps.refl _) (argsL := [(.int (1 : Int32)), (.int (1 : Int32)), (.long kb)]) (rest := []) (lenOf pd_0_1 rfl) rfl (by show 2 * 0 + _ ≤ _; exact Nat.le_of_eq rfl) (hb hby at_49) (fun _ _ => ⟨rfl, rfl, (by decide : 4 + 0 ≤ _), (by decide : 9 + 0 ≤ _)⟩)
      dsimp only [Pt.U, Pt.locs, Pt.cells, Pt.slots] at Xc16 l16 y16 z16 st16 hQ16
      have X16 := own_cast Xc16 l16 y16 z16
      obtain ⟨ev16, N16q, K16, g16_0, g16_1⟩ := hQ16
      rw [ev16] at st16
      have N16 := Fr.app N15 N16q
      have E_sv_16 := E_sv_15.keep K16
      have F_sv_numbers_16 := F_sv_numbers_15.keep K16 (ninS ne_sv_nu_2 (ninS ne_sv_ke_2 nin0))
      have F_sv_keys_16 := F_sv_keys_15.keep K16 (ninS ne_sv_nu_2 (ninS ne_sv_ke_2 nin0))
      have F_sv_room_16 := F_sv_room_15.keep K16 (ninS ne_sv_nu_2 (ninS ne_sv_ke_2 nin0))
      have A_ro_2_16 := A_ro_2_15.keep K16 (ninS (Ne.symm g2_7) (ninS (Ne.symm g2_8) nin0))
      have Zs16 : n0 ≤ T16.heap.size := Nat.le_trans Zs15 K16.1
      refine own_st (fun tgt k => st16.trans k) ?_
      show own_Go p e below _ (T16.setTop (mkF m 52 #[.val (.int fl), .val (.long ka), .second, .val (.long kb), .second, .val (.long kc), .second, .val (.ref sv), .val (.int (0 : Int32)), .val (.int (1 : Int32)), .val (.int (1 : Int32)), .unset, .unset, .unset, .unset, .unset, .unset, .unset, .unset] []))
      refine own_st (V := T16.setTop (mkF m 67 #[.val (.int fl), .val (.long ka), .second, .val (.long kb), .second, .val (.long kc), .second, .val (.ref sv), .val (.int (0 : Int32)), .val (.int (1 : Int32)), .val (.int (1 : Int32)), .val (.long ka), .second, .unset, .unset, .unset, .unset, .unset, .unset] [(.long kc), (.int (0 : Int32)), (.int (0 : Int32)), (.ref sv)])) (fun tgt k => ?_) ?_
      · show Steps p.tables e below (T16.setTop (mkF m 52 #[.val (.int fl), .val (.long ka), .second, .val (.long kb), .second, .val (.long kc), .second, .val (.ref sv), .val (.int (0 : Int32)), .val (.int (1 : Int32)), .val (.int (1 : Int32)), .unset, .unset, .unset, .unset, .unset, .unset, .unset, .unset] [])) tgt
        refine XS.lloadN X16.here hx rfl (hb hby at_52) rfl ?_
        show Steps p.tables e below (T16.setTop (mkF m 53 #[.val (.int fl), .val (.long ka), .second, .val (.long kb), .second, .val (.long kc), .second, .val (.ref sv), .val (.int (0 : Int32)), .val (.int (1 : Int32)), .val (.int (1 : Int32)), .unset, .unset, .unset, .unset, .unset, .unset, .unset, .unset] [(.long ka)])) tgt
        refine XS.lstore X16.here hx rfl (hb hby at_53) rfl (l' := #[.val (.int fl), .val (.long ka), .second, .val (.long kb), .second, .val (.long kc), .second, .val (.ref sv), .val (.int (0 : Int32)), .val (.int (1 : Int32)), .val (.int (1 : Int32)), .val (.long ka), .second, .unset, .unset, .unset, .unset, .unset, .unset]) rfl ?_
        show Steps p.tables e below (T16.setTop (mkF m 55 #[.val (.int fl), .val (.long ka), .second, .val (.long kb), .second, .val (.long kc), .second, .val (.ref sv), .val (.int (0 : Int32)), .val (.int (1 : Int32)), .val (.int (1 : Int32)), .val (.long ka), .second, .unset, .unset, .unset, .unset, .unset, .unset] [])) tgt
        refine XS.iload X16.here hx rfl (hb hby at_55) rfl ?_
        show Steps p.tables e below (T16.setTop (mkF m 57 #[.val (.int fl), .val (.long ka), .second, .val (.long kb), .second, .val (.long kc), .second, .val (.ref sv), .val (.int (0 : Int32)), .val (.int (1 : Int32)), .val (.int (1 : Int32)), .val (.long ka), .second, .unset, .unset, .unset, .unset, .unset, .unset] [(.int (1 : Int32))])) tgt
        refine XS.ifNo X16.here hx rfl (hb hby at_57) rfl ((if0 _ _).trans (feq (by decide : ¬ ((1 : Int32) = (0 : Int32)))).1) ?_
        show Steps p.tables e below (T16.setTop (mkF m 60 #[.val (.int fl), .val (.long ka), .second, .val (.long kb), .second, .val (.long kc), .second, .val (.ref sv), .val (.int (0 : Int32)), .val (.int (1 : Int32)), .val (.int (1 : Int32)), .val (.long ka), .second, .unset, .unset, .unset, .unset, .unset, .unset] [])) tgt
        refine XS.aload X16.here hx rfl (hb hby at_60) rfl rfl ?_
        show Steps p.tables e below (T16.setTop (mkF m 62 #[.val (.int fl), .val (.long ka), .second, .val (.long kb), .second, .val (.long kc), .second, .val (.ref sv), .val (.int (0 : Int32)), .val (.int (1 : Int32)), .val (.int (1 : Int32)), .val (.long ka), .second, .unset, .unset, .unset, .unset, .unset, .unset] [(.ref sv)])) tgt
        refine XS.iconst X16.here hx rfl (hb hby at_62) ?_
        show Steps p.tables e below (T16.setTop (mkF m 63 #[.val (.int fl), .val (.long ka), .second, .val (.long kb), .second, .val (.long kc), .second, .val (.ref sv), .val (.int (0 : Int32)), .val (.int (1 : Int32)), .val (.int (1 : Int32)), .val (.long ka), .second, .unset, .unset, .unset, .unset, .unset, .unset] [(.int (0 : Int32)), (.ref sv)])) tgt
        refine XS.iload X16.here hx rfl (hb hby at_63) rfl ?_
        show Steps p.tables e below (T16.setTop (mkF m 65 #[.val (.int fl), .val (.long ka), .second, .val (.long kb), .second, .val (.long kc), .second, .val (.ref sv), .val (.int (0 : Int32)), .val (.int (1 : Int32)), .val (.int (1 : Int32)), .val (.long ka), .second, .unset, .unset, .unset, .unset, .unset, .unset] [(.int (0 : Int32)), (.int (0 : Int32)), (.ref sv)])) tgt
        refine XS.lload X16.here hx rfl (hb hby at_65) rfl ?_
        exact k
      obtain ⟨cq17, kq17, q17a, q17b, q17c⟩ := isOf hZ rfl E_sv_16
      obtain ⟨v17, _, ⟨T17, L17, k17, n17⟩, -, Xc17, ⟨Lc17, hQ17, l17, y17, z17⟩, st17⟩ := X16.virtualBack hx (y := (⟨"com/example/chainwright/chainwright/KeySort", "put", "(IIJ)V"⟩ : MethodName)) (z := (⟨"com/example/chainwright/chainwright/KeySort", "put", "(IIJ)V"⟩ : MethodName)) hown (mvT hZ (hw _ (List.mem_of_getElem? (i := 17) rfl))) (mvT hZ (hw _ (List.mem_of_getElem? (i := 18) rfl))) (notFace_of_selects (args := #[]) (mvT hZ (hw _ (List.mem_of_getElem? (i := 20) rfl)))) (mvT hZ (hw _ (List.mem_of_getElem? (i := 20) rfl))) (mvT hZ (hw _ (List.mem_of_getElem? (i := 19) rfl))) (by decide) (backOf (W := 0) (rm3 l Z a0 hw [] sv (0 : Int32) (0 : Int32) kc nu_2 ke_2 (own_up (own_up (fun _ => 0) 0 (0 : Int32)) 1 (1 : Int32)) (own_upJ (own_upJ (fun _ => 0) 0 ka) 1 kb) 0 0 T16.heap n0 Zs16 F_sv_numbers_16 F_sv_keys_16 g16_0 g16_1 g2_3 g2_4 g2_6 ne_sv_nu_2 ne_sv_ke_2 (by decide) (by decide) (by decide) (by decide)) hZ (hw _ (List.mem_of_getElem? (i := 21) rfl)) (hw _ (List.mem_of_getElem? (i := 2) rfl)) (by decide) (by decide)) q17a q17c (g := (mkF m 67 #[.val (.int fl), .val (.long ka), .second, .val (.long kb), .second, .val (.long kc), .second, .val (.ref sv), .val (.int (0 : Int32)), .val (.int (1 : Int32)), .val (.int (1 : Int32)), .val (.long ka), .second, .unset, .unset, .unset, .unset, .unset, .unset] [(.long kc), (.int (0 : Int32)), (.int (0 : Int32)), (.ref sv)])) rfl (by rw [hml]; rfl) (Steps.refl _) (argsL := [(.int (0 : Int32)), (.int (0 : Int32)), (.long kc)]) (rest := []) (lenOf pd_0_1 rfl) rfl (by show 2 * 0 + _ ≤ _; exact Nat.le_of_eq rfl) (hb hby at_67) (fun _ _ => ⟨rfl, rfl, (by decide : 4 + 0 ≤ _), (by decide : 9 + 0 ≤ _)⟩)
      dsimp only [Pt.U, Pt.locs, Pt.cells, Pt.slots] at Xc17 l17 y17 z17 st17 hQ17
      have X17 := own_cast Xc17 l17 y17 z17
      obtain ⟨ev17, N17q, K17, g17_0, g17_1⟩ := hQ17
      rw [ev17] at st17
      have N17 := Fr.app N16 N17q
      have E_sv_17 := E_sv_16.keep K17
      have F_sv_numbers_17 := F_sv_numbers_16.keep K17 (ninS ne_sv_nu_2 (ninS ne_sv_ke_2 nin0))
      have F_sv_keys_17 := F_sv_keys_16.keep K17 (ninS ne_sv_nu_2 (ninS ne_sv_ke_2 nin0))
      have F_sv_room_17 := F_sv_room_16.keep K17 (ninS ne_sv_nu_2 (ninS ne_sv_ke_2 nin0))
      have A_ro_2_17 := A_ro_2_16.keep K17 (ninS (Ne.symm g2_7) (ninS (Ne.symm g2_8) nin0))
      have Zs17 : n0 ≤ T17.heap.size := Nat.le_trans Zs16 K17.1
      refine own_st (fun tgt k => st17.trans k) ?_
      show own_Go p e below _ (T17.setTop (mkF m 70 #[.val (.int fl), .val (.long ka), .second, .val (.long kb), .second, .val (.long kc), .second, .val (.ref sv), .val (.int (0 : Int32)), .val (.int (1 : Int32)), .val (.int (1 : Int32)), .val (.long ka), .second, .unset, .unset, .unset, .unset, .unset, .unset] []))
      refine own_st (V := T17.setTop (mkF m 77 #[.val (.int fl), .val (.long ka), .second, .val (.long kb), .second, .val (.long kc), .second, .val (.ref sv), .val (.int (0 : Int32)), .val (.int (1 : Int32)), .val (.int (1 : Int32)), .val (.long kc), .second, .unset, .unset, .unset, .unset, .unset, .unset] [(.int (0 : Int32)), (.ref sv)])) (fun tgt k => ?_) ?_
      · show Steps p.tables e below (T17.setTop (mkF m 70 #[.val (.int fl), .val (.long ka), .second, .val (.long kb), .second, .val (.long kc), .second, .val (.ref sv), .val (.int (0 : Int32)), .val (.int (1 : Int32)), .val (.int (1 : Int32)), .val (.long ka), .second, .unset, .unset, .unset, .unset, .unset, .unset] [])) tgt
        refine XS.lload X17.here hx rfl (hb hby at_70) rfl ?_
        show Steps p.tables e below (T17.setTop (mkF m 72 #[.val (.int fl), .val (.long ka), .second, .val (.long kb), .second, .val (.long kc), .second, .val (.ref sv), .val (.int (0 : Int32)), .val (.int (1 : Int32)), .val (.int (1 : Int32)), .val (.long ka), .second, .unset, .unset, .unset, .unset, .unset, .unset] [(.long kc)])) tgt
        refine XS.lstore X17.here hx rfl (hb hby at_72) rfl (l' := #[.val (.int fl), .val (.long ka), .second, .val (.long kb), .second, .val (.long kc), .second, .val (.ref sv), .val (.int (0 : Int32)), .val (.int (1 : Int32)), .val (.int (1 : Int32)), .val (.long kc), .second, .unset, .unset, .unset, .unset, .unset, .unset]) rfl ?_
        show Steps p.tables e below (T17.setTop (mkF m 74 #[.val (.int fl), .val (.long ka), .second, .val (.long kb), .second, .val (.long kc), .second, .val (.ref sv), .val (.int (0 : Int32)), .val (.int (1 : Int32)), .val (.int (1 : Int32)), .val (.long kc), .second, .unset, .unset, .unset, .unset, .unset, .unset] [])) tgt
        refine XS.aload X17.here hx rfl (hb hby at_74) rfl rfl ?_
        show Steps p.tables e below (T17.setTop (mkF m 76 #[.val (.int fl), .val (.long ka), .second, .val (.long kb), .second, .val (.long kc), .second, .val (.ref sv), .val (.int (0 : Int32)), .val (.int (1 : Int32)), .val (.int (1 : Int32)), .val (.long kc), .second, .unset, .unset, .unset, .unset, .unset, .unset] [(.ref sv)])) tgt
        refine XS.iconst X17.here hx rfl (hb hby at_76) ?_
        exact k
      obtain ⟨cq18, kq18, q18a, q18b, q18c⟩ := isOf hZ rfl E_sv_17
      obtain ⟨v18, _, ⟨T18, L18, k18, n18⟩, -, Xc18, ⟨Lc18, hQ18, l18, y18, z18⟩, st18⟩ := X17.virtualBack hx (y := (⟨"com/example/chainwright/chainwright/KeySort", "number", "(I)I"⟩ : MethodName)) (z := (⟨"com/example/chainwright/chainwright/KeySort", "number", "(I)I"⟩ : MethodName)) hown (mvT hZ (hw _ (List.mem_of_getElem? (i := 22) rfl))) (mvT hZ (hw _ (List.mem_of_getElem? (i := 23) rfl))) (notFace_of_selects (args := #[]) (mvT hZ (hw _ (List.mem_of_getElem? (i := 25) rfl)))) (mvT hZ (hw _ (List.mem_of_getElem? (i := 25) rfl))) (mvT hZ (hw _ (List.mem_of_getElem? (i := 24) rfl))) (by decide) (backOf (W := 0) (rm4 l Z a0 hw [] sv (0 : Int32) nu_2 (own_up (own_up (own_up (fun _ => 0) 0 (0 : Int32)) 1 (1 : Int32)) 0 (0 : Int32)) 0 T17.heap n0 Zs17 F_sv_numbers_17 g17_0 (by decide) (by decide)) hZ (hw _ (List.mem_of_getElem? (i := 26) rfl)) (hw _ (List.mem_of_getElem? (i := 2) rfl)) (by decide) (by decide)) q18a q18c (g := (mkF m 77 #[.val (.int fl), .val (.long ka), .second, .val (.long kb), .second, .val (.long kc), .second, .val (.ref sv), .val (.int (0 : Int32)), .val (.int (1 : Int32)), .val (.int (1 : Int32)), .val (.long kc), .second, .unset, .unset, .unset, .unset, .unset, .unset] [(.int (0 : Int32)), (.ref sv)])) rfl (by rw [hml]; rfl) (Steps.refl _) (argsL := [(.int (0 : Int32))]) (rest := []) (lenOf pd_0_2 rfl) rfl (by show 2 * 0 + _ ≤ _; exact Nat.le_of_eq rfl) (hb hby at_77) (fun _ _ => ⟨rfl, rfl, (by decide : 4 + 0 ≤ _), (by decide : 9 + 0 ≤ _)⟩)
      dsimp only [Pt.U, Pt.locs, Pt.cells, Pt.slots] at Xc18 l18 y18 z18 st18 hQ18
      have X18 := own_cast Xc18 l18 y18 z18
      obtain ⟨ev18, N18q, K18⟩ := hQ18
      rw [ev18] at st18
      have N18 := Fr.app N17 N18q
      refine own_st (fun tgt k => st18.trans k) ?_
      show own_Go p e below _ (T18.setTop (mkF m 80 #[.val (.int fl), .val (.long ka), .second, .val (.long kb), .second, .val (.long kc), .second, .val (.ref sv), .val (.int (0 : Int32)), .val (.int (1 : Int32)), .val (.int (1 : Int32)), .val (.long kc), .second, .unset, .unset, .unset, .unset, .unset, .unset] [(.int ((own_up (own_up (own_up (fun _ => 0) 0 (0 : Int32)) 1 (1 : Int32)) 0 (0 : Int32)) 0))]))
      refine own_st (V := T18.setTop (mkF m 88 #[.val (.int fl), .val (.long ka), .second, .val (.long kb), .second, .val (.long kc), .second, .val (.ref sv), .val (.int (0 : Int32)), .val (.int (1 : Int32)), .val (.int (1 : Int32)), .val (.long kc), .second, .unset, .unset, .unset, .unset, .unset, .unset] [(.int (1 : Int32)), (.ref sv)])) (fun tgt k => ?_) ?_
      · show Steps p.tables e below (T18.setTop (mkF m 80 #[.val (.int fl), .val (.long ka), .second, .val (.long kb), .second, .val (.long kc), .second, .val (.ref sv), .val (.int (0 : Int32)), .val (.int (1 : Int32)), .val (.int (1 : Int32)), .val (.long kc), .second, .unset, .unset, .unset, .unset, .unset, .unset] [(.int ((own_up (own_up (own_up (fun _ => 0) 0 (0 : Int32)) 1 (1 : Int32)) 0 (0 : Int32)) 0))])) tgt
        refine XS.iload X18.here hx rfl (hb hby at_80) rfl ?_
        show Steps p.tables e below (T18.setTop (mkF m 82 #[.val (.int fl), .val (.long ka), .second, .val (.long kb), .second, .val (.long kc), .second, .val (.ref sv), .val (.int (0 : Int32)), .val (.int (1 : Int32)), .val (.int (1 : Int32)), .val (.long kc), .second, .unset, .unset, .unset, .unset, .unset, .unset] [(.int (0 : Int32)), (.int ((own_up (own_up (own_up (fun _ => 0) 0 (0 : Int32)) 1 (1 : Int32)) 0 (0 : Int32)) 0))])) tgt
        refine XS.icmpNo X18.here hx rfl (hb hby at_82) rfl (teq (by decide)).2 ?_
        show Steps p.tables e below (T18.setTop (mkF m 85 #[.val (.int fl), .val (.long ka), .second, .val (.long kb), .second, .val (.long kc), .second, .val (.ref sv), .val (.int (0 : Int32)), .val (.int (1 : Int32)), .val (.int (1 : Int32)), .val (.long kc), .second, .unset, .unset, .unset, .unset, .unset, .unset] [])) tgt
        refine XS.aload X18.here hx rfl (hb hby at_85) rfl rfl ?_
        show Steps p.tables e below (T18.setTop (mkF m 87 #[.val (.int fl), .val (.long ka), .second, .val (.long kb), .second, .val (.long kc), .second, .val (.ref sv), .val (.int (0 : Int32)), .val (.int (1 : Int32)), .val (.int (1 : Int32)), .val (.long kc), .second, .unset, .unset, .unset, .unset, .unset, .unset] [(.ref sv)])) tgt
        refine XS.iconst X18.here hx rfl (hb hby at_87) ?_
        exact k
      obtain ⟨cq19, kq19, q19a, q19b, q19c⟩ := isOf hZ K18 E_sv_17
      obtain ⟨v19, _, ⟨T19, L19, k19, n19⟩, -, Xc19, ⟨Lc19, hQ19, l19, y19, z19⟩, st19⟩ := X18.virtualBack hx (y := (⟨"com/example/chainwright/chainwright/KeySort", "number", "(I)I"⟩ : MethodName)) (z := (⟨"com/example/chainwright/chainwright/KeySort", "number", "(I)I"⟩ : MethodName)) hown (mvT hZ (hw _ (List.mem_of_getElem? (i := 22) rfl))) (mvT hZ (hw _ (List.mem_of_getElem? (i := 23) rfl))) (notFace_of_selects (args := #[]) (mvT hZ (hw _ (List.mem_of_getElem? (i := 25) rfl)))) (mvT hZ (hw _ (List.mem_of_getElem? (i := 25) rfl))) (mvT hZ (hw _ (List.mem_of_getElem? (i := 24) rfl))) (by decide) (backOf (W := 0) (rm4 l Z a0 hw [] sv (1 : Int32) nu_2 (own_up (own_up (own_up (fun _ => 0) 0 (0 : Int32)) 1 (1 : Int32)) 0 (0 : Int32)) 1 T17.heap n0 Zs17 F_sv_numbers_17 g17_0 (by decide) (by decide)) hZ (hw _ (List.mem_of_getElem? (i := 26) rfl)) (hw _ (List.mem_of_getElem? (i := 2) rfl)) (by decide) (by decide)) q19a q19c (g := (mkF m 88 #[.val (.int fl), .val (.long ka), .second, .val (.long kb), .second, .val (.long kc), .second, .val (.ref sv), .val (.int (0 : Int32)), .val (.int (1 : Int32)), .val (.int (1 : Int32)), .val (.long kc), .second, .unset, .unset, .unset, .unset, .unset, .unset] [(.int (1 : Int32)), (.ref sv)])) rfl (by rw [hml]; rfl) (Steps.refl _) (argsL := [(.int (1 : Int32))]) (rest := []) (lenOf pd_0_2 rfl) rfl (by show 2 * 0 + _ ≤ _; exact Nat.le_of_eq rfl) (hb hby at_88) (fun _ _ => ⟨rfl, K18, (by decide : 4 + 0 ≤ _), (by decide : 9 + 0 ≤ _)⟩)
      dsimp only [Pt.U, Pt.locs, Pt.cells, Pt.slots] at Xc19 l19 y19 z19 st19 hQ19
      have X19 := own_cast Xc19 l19 y19 z19
      obtain ⟨ev19, N19q, K19⟩ := hQ19
      rw [ev19] at st19
      have N19 := Fr.app N18 N19q
      refine own_st (fun tgt k => st19.trans k) ?_
      show own_Go p e below _ (T19.setTop (mkF m 91 #[.val (.int fl), .val (.long ka), .second, .val (.long kb), .second, .val (.long kc), .second, .val (.ref sv), .val (.int (0 : Int32)), .val (.int (1 : Int32)), .val (.int (1 : Int32)), .val (.long kc), .second, .unset, .unset, .unset, .unset, .unset, .unset] [(.int ((own_up (own_up (own_up (fun _ => 0) 0 (0 : Int32)) 1 (1 : Int32)) 0 (0 : Int32)) 1))]))
      refine own_st (V := T19.setTop (mkF m 134 #[.val (.int fl), .val (.long ka), .second, .val (.long kb), .second, .val (.long kc), .second, .val (.ref sv), .val (.int (0 : Int32)), .val (.int (1 : Int32)), .val (.int (1 : Int32)), .val (.long kc), .second, .val (.int (1 : Int32)), .val (.long kc), .second, .val (.long kb), .second, .unset] [(.int (lcmpW kb kc))])) (fun tgt k => ?_) ?_
      · show Steps p.tables e below (T19.setTop (mkF m 91 #[.val (.int fl), .val (.long ka), .second, .val (.long kb), .second, .val (.long kc), .second, .val (.ref sv), .val (.int (0 : Int32)), .val (.int (1 : Int32)), .val (.int (1 : Int32)), .val (.long kc), .second, .unset, .unset, .unset, .unset, .unset, .unset] [(.int ((own_up (own_up (own_up (fun _ => 0) 0 (0 : Int32)) 1 (1 : Int32)) 0 (0 : Int32)) 1))])) tgt
        refine XS.iload X19.here hx rfl (hb hby at_91) rfl ?_
        show Steps p.tables e below (T19.setTop (mkF m 93 #[.val (.int fl), .val (.long ka), .second, .val (.long kb), .second, .val (.long kc), .second, .val (.ref sv), .val (.int (0 : Int32)), .val (.int (1 : Int32)), .val (.int (1 : Int32)), .val (.long kc), .second, .unset, .unset, .unset, .unset, .unset, .unset] [(.int (1 : Int32)), (.int ((own_up (own_up (own_up (fun _ => 0) 0 (0 : Int32)) 1 (1 : Int32)) 0 (0 : Int32)) 1))])) tgt
        refine XS.icmpNo X19.here hx rfl (hb hby at_93) rfl (teq (by decide)).2 ?_
        show Steps p.tables e below (T19.setTop (mkF m 96 #[.val (.int fl), .val (.long ka), .second, .val (.long kb), .second, .val (.long kc), .second, .val (.ref sv), .val (.int (0 : Int32)), .val (.int (1 : Int32)), .val (.int (1 : Int32)), .val (.long kc), .second, .unset, .unset, .unset, .unset, .unset, .unset] [])) tgt
        refine XS.iconst X19.here hx rfl (hb hby at_96) ?_
        show Steps p.tables e below (T19.setTop (mkF m 97 #[.val (.int fl), .val (.long ka), .second, .val (.long kb), .second, .val (.long kc), .second, .val (.ref sv), .val (.int (0 : Int32)), .val (.int (1 : Int32)), .val (.int (1 : Int32)), .val (.long kc), .second, .unset, .unset, .unset, .unset, .unset, .unset] [(.int (1 : Int32))])) tgt
        refine XS.goto X19.here hx rfl (pc0 := 97) (pc' := 101) rfl (hb hby at_97) (by decide) (by decide) ?_
        show Steps p.tables e below (T19.setTop (mkF m 101 #[.val (.int fl), .val (.long ka), .second, .val (.long kb), .second, .val (.long kc), .second, .val (.ref sv), .val (.int (0 : Int32)), .val (.int (1 : Int32)), .val (.int (1 : Int32)), .val (.long kc), .second, .unset, .unset, .unset, .unset, .unset, .unset] [(.int (1 : Int32))])) tgt
        refine XS.istore X19.here hx rfl (hb hby at_101) rfl (l' := #[.val (.int fl), .val (.long ka), .second, .val (.long kb), .second, .val (.long kc), .second, .val (.ref sv), .val (.int (0 : Int32)), .val (.int (1 : Int32)), .val (.int (1 : Int32)), .val (.long kc), .second, .val (.int (1 : Int32)), .unset, .unset, .unset, .unset, .unset]) rfl ?_
        show Steps p.tables e below (T19.setTop (mkF m 103 #[.val (.int fl), .val (.long ka), .second, .val (.long kb), .second, .val (.long kc), .second, .val (.ref sv), .val (.int (0 : Int32)), .val (.int (1 : Int32)), .val (.int (1 : Int32)), .val (.long kc), .second, .val (.int (1 : Int32)), .unset, .unset, .unset, .unset, .unset] [])) tgt
        refine XS.iload X19.here hx rfl (hb hby at_103) rfl ?_
        show Steps p.tables e below (T19.setTop (mkF m 105 #[.val (.int fl), .val (.long ka), .second, .val (.long kb), .second, .val (.long kc), .second, .val (.ref sv), .val (.int (0 : Int32)), .val (.int (1 : Int32)), .val (.int (1 : Int32)), .val (.long kc), .second, .val (.int (1 : Int32)), .unset, .unset, .unset, .unset, .unset] [(.int (0 : Int32))])) tgt
        refine XS.ifNo X19.here hx rfl (hb hby at_105) rfl ((if0 _ _).trans (teq (by decide : (0 : Int32) = (0 : Int32))).2) ?_
        show Steps p.tables e below (T19.setTop (mkF m 108 #[.val (.int fl), .val (.long ka), .second, .val (.long kb), .second, .val (.long kc), .second, .val (.ref sv), .val (.int (0 : Int32)), .val (.int (1 : Int32)), .val (.int (1 : Int32)), .val (.long kc), .second, .val (.int (1 : Int32)), .unset, .unset, .unset, .unset, .unset] [])) tgt
        refine XS.lload X19.here hx rfl (hb hby at_108) rfl ?_
        show Steps p.tables e below (T19.setTop (mkF m 110 #[.val (.int fl), .val (.long ka), .second, .val (.long kb), .second, .val (.long kc), .second, .val (.ref sv), .val (.int (0 : Int32)), .val (.int (1 : Int32)), .val (.int (1 : Int32)), .val (.long kc), .second, .val (.int (1 : Int32)), .unset, .unset, .unset, .unset, .unset] [(.long kc)])) tgt
        refine XS.goto X19.here hx rfl (pc0 := 110) (pc' := 114) rfl (hb hby at_110) (by decide) (by decide) ?_
        show Steps p.tables e below (T19.setTop (mkF m 114 #[.val (.int fl), .val (.long ka), .second, .val (.long kb), .second, .val (.long kc), .second, .val (.ref sv), .val (.int (0 : Int32)), .val (.int (1 : Int32)), .val (.int (1 : Int32)), .val (.long kc), .second, .val (.int (1 : Int32)), .unset, .unset, .unset, .unset, .unset] [(.long kc)])) tgt
        refine XS.lstore X19.here hx rfl (hb hby at_114) rfl (l' := #[.val (.int fl), .val (.long ka), .second, .val (.long kb), .second, .val (.long kc), .second, .val (.ref sv), .val (.int (0 : Int32)), .val (.int (1 : Int32)), .val (.int (1 : Int32)), .val (.long kc), .second, .val (.int (1 : Int32)), .val (.long kc), .second, .unset, .unset, .unset]) rfl ?_
        show Steps p.tables e below (T19.setTop (mkF m 116 #[.val (.int fl), .val (.long ka), .second, .val (.long kb), .second, .val (.long kc), .second, .val (.ref sv), .val (.int (0 : Int32)), .val (.int (1 : Int32)), .val (.int (1 : Int32)), .val (.long kc), .second, .val (.int (1 : Int32)), .val (.long kc), .second, .unset, .unset, .unset] [])) tgt
        refine XS.iload X19.here hx rfl (hb hby at_116) rfl ?_
        show Steps p.tables e below (T19.setTop (mkF m 118 #[.val (.int fl), .val (.long ka), .second, .val (.long kb), .second, .val (.long kc), .second, .val (.ref sv), .val (.int (0 : Int32)), .val (.int (1 : Int32)), .val (.int (1 : Int32)), .val (.long kc), .second, .val (.int (1 : Int32)), .val (.long kc), .second, .unset, .unset, .unset] [(.int (0 : Int32))])) tgt
        refine XS.ifNo X19.here hx rfl (hb hby at_118) rfl ((if0 _ _).trans (teq (by decide : (0 : Int32) = (0 : Int32))).2) ?_
        show Steps p.tables e below (T19.setTop (mkF m 121 #[.val (.int fl), .val (.long ka), .second, .val (.long kb), .second, .val (.long kc), .second, .val (.ref sv), .val (.int (0 : Int32)), .val (.int (1 : Int32)), .val (.int (1 : Int32)), .val (.long kc), .second, .val (.int (1 : Int32)), .val (.long kc), .second, .unset, .unset, .unset] [])) tgt
        refine XS.lloadN X19.here hx rfl (hb hby at_121) rfl ?_
        show Steps p.tables e below (T19.setTop (mkF m 122 #[.val (.int fl), .val (.long ka), .second, .val (.long kb), .second, .val (.long kc), .second, .val (.ref sv), .val (.int (0 : Int32)), .val (.int (1 : Int32)), .val (.int (1 : Int32)), .val (.long kc), .second, .val (.int (1 : Int32)), .val (.long kc), .second, .unset, .unset, .unset] [(.long kb)])) tgt
        refine XS.goto X19.here hx rfl (pc0 := 122) (pc' := 127) rfl (hb hby at_122) (by decide) (by decide) ?_
        show Steps p.tables e below (T19.setTop (mkF m 127 #[.val (.int fl), .val (.long ka), .second, .val (.long kb), .second, .val (.long kc), .second, .val (.ref sv), .val (.int (0 : Int32)), .val (.int (1 : Int32)), .val (.int (1 : Int32)), .val (.long kc), .second, .val (.int (1 : Int32)), .val (.long kc), .second, .unset, .unset, .unset] [(.long kb)])) tgt
        refine XS.lstore X19.here hx rfl (hb hby at_127) rfl (l' := #[.val (.int fl), .val (.long ka), .second, .val (.long kb), .second, .val (.long kc), .second, .val (.ref sv), .val (.int (0 : Int32)), .val (.int (1 : Int32)), .val (.int (1 : Int32)), .val (.long kc), .second, .val (.int (1 : Int32)), .val (.long kc), .second, .val (.long kb), .second, .unset]) rfl ?_
        show Steps p.tables e below (T19.setTop (mkF m 129 #[.val (.int fl), .val (.long ka), .second, .val (.long kb), .second, .val (.long kc), .second, .val (.ref sv), .val (.int (0 : Int32)), .val (.int (1 : Int32)), .val (.int (1 : Int32)), .val (.long kc), .second, .val (.int (1 : Int32)), .val (.long kc), .second, .val (.long kb), .second, .unset] [])) tgt
        refine XS.lload X19.here hx rfl (hb hby at_129) rfl ?_
        show Steps p.tables e below (T19.setTop (mkF m 131 #[.val (.int fl), .val (.long ka), .second, .val (.long kb), .second, .val (.long kc), .second, .val (.ref sv), .val (.int (0 : Int32)), .val (.int (1 : Int32)), .val (.int (1 : Int32)), .val (.long kc), .second, .val (.int (1 : Int32)), .val (.long kc), .second, .val (.long kb), .second, .unset] [(.long kb)])) tgt
        refine XS.lload X19.here hx rfl (hb hby at_131) rfl ?_
        show Steps p.tables e below (T19.setTop (mkF m 133 #[.val (.int fl), .val (.long ka), .second, .val (.long kb), .second, .val (.long kc), .second, .val (.ref sv), .val (.int (0 : Int32)), .val (.int (1 : Int32)), .val (.int (1 : Int32)), .val (.long kc), .second, .val (.int (1 : Int32)), .val (.long kc), .second, .val (.long kb), .second, .unset] [(.long kc), (.long kb)])) tgt
        refine XS.lcmp X19.here hx rfl (hb hby at_133) rfl ?_
        exact k
      by_cases hc134 : kb < kc
      · skip
        refine own_st (V := T19.setTop (mkF m 147 #[.val (.int fl), .val (.long ka), .second, .val (.long kb), .second, .val (.long kc), .second, .val (.ref sv), .val (.int (0 : Int32)), .val (.int (1 : Int32)), .val (.int (1 : Int32)), .val (.long kc), .second, .val (.int (1 : Int32)), .val (.long kc), .second, .val (.long kb), .second, .val (.int (1 : Int32))] [(.int (2 : Int32)), (.ref sv)])) (fun tgt k => ?_) ?_
        · show Steps p.tables e below (T19.setTop (mkF m 134 #[.val (.int fl), .val (.long ka), .second, .val (.long kb), .second, .val (.long kc), .second, .val (.ref sv), .val (.int (0 : Int32)), .val (.int (1 : Int32)), .val (.int (1 : Int32)), .val (.long kc), .second, .val (.int (1 : Int32)), .val (.long kc), .second, .val (.long kb), .second, .unset] [(.int (lcmpW kb kc))])) tgt
          refine XS.ifNo X19.here hx rfl (hb hby at_134) rfl ((if0 _ _).trans (tlt ((lw_lt kb kc).mpr hc134)).2.1) ?_
          show Steps p.tables e below (T19.setTop (mkF m 137 #[.val (.int fl), .val (.long ka), .second, .val (.long kb), .second, .val (.long kc), .second, .val (.ref sv), .val (.int (0 : Int32)), .val (.int (1 : Int32)), .val (.int (1 : Int32)), .val (.long kc), .second, .val (.int (1 : Int32)), .val (.long kc), .second, .val (.long kb), .second, .unset] [])) tgt
          refine XS.iconst X19.here hx rfl (hb hby at_137) ?_
          show Steps p.tables e below (T19.setTop (mkF m 138 #[.val (.int fl), .val (.long ka), .second, .val (.long kb), .second, .val (.long kc), .second, .val (.ref sv), .val (.int (0 : Int32)), .val (.int (1 : Int32)), .val (.int (1 : Int32)), .val (.long kc), .second, .val (.int (1 : Int32)), .val (.long kc), .second, .val (.long kb), .second, .unset] [(.int (1 : Int32))])) tgt
          refine XS.goto X19.here hx rfl (pc0 := 138) (pc' := 142) rfl (hb hby at_138) (by decide) (by decide) ?_
          show Steps p.tables e below (T19.setTop (mkF m 142 #[.val (.int fl), .val (.long ka), .second, .val (.long kb), .second, .val (.long kc), .second, .val (.ref sv), .val (.int (0 : Int32)), .val (.int (1 : Int32)), .val (.int (1 : Int32)), .val (.long kc), .second, .val (.int (1 : Int32)), .val (.long kc), .second, .val (.long kb), .second, .unset] [(.int (1 : Int32))])) tgt
          refine XS.istore X19.here hx rfl (hb hby at_142) rfl (l' := #[.val (.int fl), .val (.long ka), .second, .val (.long kb), .second, .val (.long kc), .second, .val (.ref sv), .val (.int (0 : Int32)), .val (.int (1 : Int32)), .val (.int (1 : Int32)), .val (.long kc), .second, .val (.int (1 : Int32)), .val (.long kc), .second, .val (.long kb), .second, .val (.int (1 : Int32))]) rfl ?_
          show Steps p.tables e below (T19.setTop (mkF m 144 #[.val (.int fl), .val (.long ka), .second, .val (.long kb), .second, .val (.long kc), .second, .val (.ref sv), .val (.int (0 : Int32)), .val (.int (1 : Int32)), .val (.int (1 : Int32)), .val (.long kc), .second, .val (.int (1 : Int32)), .val (.long kc), .second, .val (.long kb), .second, .val (.int (1 : Int32))] [])) tgt
          refine XS.aload X19.here hx rfl (hb hby at_144) rfl rfl ?_
          show Steps p.tables e below (T19.setTop (mkF m 146 #[.val (.int fl), .val (.long ka), .second, .val (.long kb), .second, .val (.long kc), .second, .val (.ref sv), .val (.int (0 : Int32)), .val (.int (1 : Int32)), .val (.int (1 : Int32)), .val (.long kc), .second, .val (.int (1 : Int32)), .val (.long kc), .second, .val (.long kb), .second, .val (.int (1 : Int32))] [(.ref sv)])) tgt
          refine XS.iconst X19.here hx rfl (hb hby at_146) ?_
          exact k
        obtain ⟨cq20, kq20, q20a, q20b, q20c⟩ := isOf hZ K19 E_sv_17
        obtain ⟨v20, _, ⟨T20, L20, k20, n20⟩, -, Xc20, ⟨Lc20, hQ20, l20, y20, z20⟩, st20⟩ := X19.virtualBack hx (y := (⟨"com/example/chainwright/chainwright/KeySort", "sort", "(I)V"⟩ : MethodName)) (z := (⟨"com/example/chainwright/chainwright/KeySort", "sort", "(I)V"⟩ : MethodName)) hown (mvT hZ (hw _ (List.mem_of_getElem? (i := 27) rfl))) (mvT hZ (hw _ (List.mem_of_getElem? (i := 28) rfl))) (notFace_of_selects (args := #[]) (mvT hZ (hw _ (List.mem_of_getElem? (i := 30) rfl)))) (mvT hZ (hw _ (List.mem_of_getElem? (i := 30) rfl))) (mvT hZ (hw _ (List.mem_of_getElem? (i := 29) rfl))) (by decide) (backOf (W := 0) (rm5 l Z a0 hw [] sv (2 : Int32) nu_2 ke_2 ro_2 (own_up (own_up (own_up (fun _ => 0) 0 (0 : Int32)) 1 (1 : Int32)) 0 (0 : Int32)) (own_upJ (own_upJ (own_upJ (fun _ => 0) 0 ka) 1 kb) 0 kc) (fun _ => 0) 0 1 T17.heap n0 Zs17 E_sv_17 F_sv_numbers_17 F_sv_keys_17 F_sv_room_17 g17_0 g17_1 A_ro_2_17 g2_3 g2_5 g2_6 g2_7 g2_8 ne_sv_nu_2 ne_sv_ro_2 rfl (by decide) (by decide) (by decide) (by decide)) hZ (hw _ (List.mem_of_getElem? (i := 31) rfl)) (hw _ (List.mem_of_getElem? (i := 2) rfl)) (by decide) (by decide)) q20a q20c (g := (mkF m 147 #[.val (.int fl), .val (.long ka), .second, .val (.long kb), .second, .val (.long kc), .second, .val (.ref sv), .val (.int (0 : Int32)), .val (.int (1 : Int32)), .val (.int (1 : Int32)), .val (.long kc), .second, .val (.int (1 : Int32)), .val (.long kc), .second, .val (.long kb), .second, .val (.int (1 : Int32))] [(.int (2 : Int32)), (.ref sv)])) rfl (by rw [hml]; rfl) (Steps.refl _) (argsL := [(.int (2 : Int32))]) (rest := []) (lenOf pd_0_0 rfl) rfl (by show 2 * 0 + _ ≤ _; exact Nat.le_of_eq rfl) (hb hby at_147) (fun _ _ => ⟨rfl, K19, (by decide : 4 + 0 ≤ _), (by decide : 9 + 0 ≤ _)⟩)
        dsimp only [Pt.U, Pt.locs, Pt.cells, Pt.slots] at Xc20 l20 y20 z20 st20 hQ20
        have X20 := own_cast Xc20 l20 y20 z20
        obtain ⟨ev20, N20q, K20, g20_0⟩ := hQ20
        rw [ev20] at st20
        have N20 := Fr.app N19 N20q
        have E_sv_20 := E_sv_17.keep K20
        have F_sv_numbers_20 := F_sv_numbers_17.keep K20 (ninS ne_sv_nu_2 (ninS ne_sv_ro_2 nin0))
        have F_sv_keys_20 := F_sv_keys_17.keep K20 (ninS ne_sv_nu_2 (ninS ne_sv_ro_2 nin0))
        have F_sv_room_20 := F_sv_room_17.keep K20 (ninS ne_sv_nu_2 (ninS ne_sv_ro_2 nin0))
        have A_ke_2_20 := g17_1.keep K20 (ninS (Ne.symm g2_6) (ninS g2_8 nin0))
        have Zs20 : n0 ≤ T20.heap.size := Nat.le_trans Zs17 K20.1
        refine own_st (fun tgt k => st20.trans k) ?_
        show own_Go p e below _ (T20.setTop (mkF m 150 #[.val (.int fl), .val (.long ka), .second, .val (.long kb), .second, .val (.long kc), .second, .val (.ref sv), .val (.int (0 : Int32)), .val (.int (1 : Int32)), .val (.int (1 : Int32)), .val (.long kc), .second, .val (.int (1 : Int32)), .val (.long kc), .second, .val (.long kb), .second, .val (.int (1 : Int32))] []))
        refine own_st (V := T20.setTop (mkF m 158 #[.val (.int fl), .val (.long ka), .second, .val (.long kb), .second, .val (.long kc), .second, .val (.ref sv), .val (.int (0 : Int32)), .val (.int (1 : Int32)), .val (.int (1 : Int32)), .val (.long kc), .second, .val (.int (1 : Int32)), .val (.long kc), .second, .val (.long kb), .second, .val (.int (1 : Int32))] [(.int (0 : Int32)), (.ref sv)])) (fun tgt k => ?_) ?_
        · show Steps p.tables e below (T20.setTop (mkF m 150 #[.val (.int fl), .val (.long ka), .second, .val (.long kb), .second, .val (.long kc), .second, .val (.ref sv), .val (.int (0 : Int32)), .val (.int (1 : Int32)), .val (.int (1 : Int32)), .val (.long kc), .second, .val (.int (1 : Int32)), .val (.long kc), .second, .val (.long kb), .second, .val (.int (1 : Int32))] [])) tgt
          refine XS.iload X20.here hx rfl (hb hby at_150) rfl ?_
          show Steps p.tables e below (T20.setTop (mkF m 152 #[.val (.int fl), .val (.long ka), .second, .val (.long kb), .second, .val (.long kc), .second, .val (.ref sv), .val (.int (0 : Int32)), .val (.int (1 : Int32)), .val (.int (1 : Int32)), .val (.long kc), .second, .val (.int (1 : Int32)), .val (.long kc), .second, .val (.long kb), .second, .val (.int (1 : Int32))] [(.int (1 : Int32))])) tgt
          refine XS.ifNo X20.here hx rfl (hb hby at_152) rfl ((if0 _ _).trans (feq (by decide : ¬ ((1 : Int32) = (0 : Int32)))).1) ?_
          show Steps p.tables e below (T20.setTop (mkF m 155 #[.val (.int fl), .val (.long ka), .second, .val (.long kb), .second, .val (.long kc), .second, .val (.ref sv), .val (.int (0 : Int32)), .val (.int (1 : Int32)), .val (.int (1 : Int32)), .val (.long kc), .second, .val (.int (1 : Int32)), .val (.long kc), .second, .val (.long kb), .second, .val (.int (1 : Int32))] [])) tgt
          refine XS.aload X20.here hx rfl (hb hby at_155) rfl rfl ?_
          show Steps p.tables e below (T20.setTop (mkF m 157 #[.val (.int fl), .val (.long ka), .second, .val (.long kb), .second, .val (.long kc), .second, .val (.ref sv), .val (.int (0 : Int32)), .val (.int (1 : Int32)), .val (.int (1 : Int32)), .val (.long kc), .second, .val (.int (1 : Int32)), .val (.long kc), .second, .val (.long kb), .second, .val (.int (1 : Int32))] [(.ref sv)])) tgt
          refine XS.iconst X20.here hx rfl (hb hby at_157) ?_
          exact k
        obtain ⟨cq21, kq21, q21a, q21b, q21c⟩ := isOf hZ rfl E_sv_20
        obtain ⟨v21, _, ⟨T21, L21, k21, n21⟩, -, Xc21, ⟨Lc21, hQ21, l21, y21, z21⟩, st21⟩ := X20.virtualBack hx (y := (⟨"com/example/chainwright/chainwright/KeySort", "number", "(I)I"⟩ : MethodName)) (z := (⟨"com/example/chainwright/chainwright/KeySort", "number", "(I)I"⟩ : MethodName)) hown (mvT hZ (hw _ (List.mem_of_getElem? (i := 22) rfl))) (mvT hZ (hw _ (List.mem_of_getElem? (i := 23) rfl))) (notFace_of_selects (args := #[]) (mvT hZ (hw _ (List.mem_of_getElem? (i := 25) rfl)))) (mvT hZ (hw _ (List.mem_of_getElem? (i := 25) rfl))) (mvT hZ (hw _ (List.mem_of_getElem? (i := 24) rfl))) (by decide) (backOf (W := 0) (rm4 l Z a0 hw [] sv (0 : Int32) nu_2 (if (own_bf (own_upJ (own_upJ (own_upJ (fun _ => 0) 0 ka) 1 kb) 0 kc) ((own_up (own_up (own_up (fun _ => 0) 0 (0 : Int32)) 1 (1 : Int32)) 0 (0 : Int32)) 1) ((own_up (own_up (own_up (fun _ => 0) 0 (0 : Int32)) 1 (1 : Int32)) 0 (0 : Int32)) 0) 1 0) = 0 then (own_up (own_up (fun _ => 0) 0 ((own_up (own_up (own_up (fun _ => 0) 0 (0 : Int32)) 1 (1 : Int32)) 0 (0 : Int32)) 0)) 1 ((own_up (own_up (own_up (fun _ => 0) 0 (0 : Int32)) 1 (1 : Int32)) 0 (0 : Int32)) 1)) else (own_up (own_up (fun _ => 0) 0 ((own_up (own_up (own_up (fun _ => 0) 0 (0 : Int32)) 1 (1 : Int32)) 0 (0 : Int32)) 1)) 1 ((own_up (own_up (own_up (fun _ => 0) 0 (0 : Int32)) 1 (1 : Int32)) 0 (0 : Int32)) 0))) 0 T20.heap n0 Zs20 F_sv_numbers_20 g20_0 (by decide) (by decide)) hZ (hw _ (List.mem_of_getElem? (i := 26) rfl)) (hw _ (List.mem_of_getElem? (i := 2) rfl)) (by decide) (by decide)) q21a q21c (g := (mkF m 158 #[.val (.int fl), .val (.long ka), .second, .val (.long kb), .second, .val (.long kc), .second, .val (.ref sv), .val (.int (0 : Int32)), .val (.int (1 : Int32)), .val (.int (1 : Int32)), .val (.long kc), .second, .val (.int (1 : Int32)), .val (.long kc), .second, .val (.long kb), .second, .val (.int (1 : Int32))] [(.int (0 : Int32)), (.ref sv)])) rfl (by rw [hml]; rfl) (Steps.refl _) (argsL := [(.int (0 : Int32))]) (rest := []) (lenOf pd_0_2 rfl) rfl (by show 2 * 0 + _ ≤ _; exact Nat.le_of_eq rfl) (hb hby at_158) (fun _ _ => ⟨rfl, rfl, (by decide : 4 + 0 ≤ _), (by decide : 9 + 0 ≤ _)⟩)
        dsimp only [Pt.U, Pt.locs, Pt.cells, Pt.slots] at Xc21 l21 y21 z21 st21 hQ21
        have X21 := own_cast Xc21 l21 y21 z21
        obtain ⟨ev21, N21q, K21⟩ := hQ21
        rw [ev21] at st21
        have N21 := Fr.app N20 N21q
        refine own_st (fun tgt k => st21.trans k) ?_
        show own_Go p e below _ (T21.setTop (mkF m 161 #[.val (.int fl), .val (.long ka), .second, .val (.long kb), .second, .val (.long kc), .second, .val (.ref sv), .val (.int (0 : Int32)), .val (.int (1 : Int32)), .val (.int (1 : Int32)), .val (.long kc), .second, .val (.int (1 : Int32)), .val (.long kc), .second, .val (.long kb), .second, .val (.int (1 : Int32))] [(.int ((if (own_bf (own_upJ (own_upJ (own_upJ (fun _ => 0) 0 ka) 1 kb) 0 kc) ((own_up (own_up (own_up (fun _ => 0) 0 (0 : Int32)) 1 (1 : Int32)) 0 (0 : Int32)) 1) ((own_up (own_up (own_up (fun _ => 0) 0 (0 : Int32)) 1 (1 : Int32)) 0 (0 : Int32)) 0) 1 0) = 0 then (own_up (own_up (fun _ => 0) 0 ((own_up (own_up (own_up (fun _ => 0) 0 (0 : Int32)) 1 (1 : Int32)) 0 (0 : Int32)) 0)) 1 ((own_up (own_up (own_up (fun _ => 0) 0 (0 : Int32)) 1 (1 : Int32)) 0 (0 : Int32)) 1)) else (own_up (own_up (fun _ => 0) 0 ((own_up (own_up (own_up (fun _ => 0) 0 (0 : Int32)) 1 (1 : Int32)) 0 (0 : Int32)) 1)) 1 ((own_up (own_up (own_up (fun _ => 0) 0 (0 : Int32)) 1 (1 : Int32)) 0 (0 : Int32)) 0))) 0))]))
        refine own_st (V := T21.setTop (mkF m 169 #[.val (.int fl), .val (.long ka), .second, .val (.long kb), .second, .val (.long kc), .second, .val (.ref sv), .val (.int (0 : Int32)), .val (.int (1 : Int32)), .val (.int (1 : Int32)), .val (.long kc), .second, .val (.int (1 : Int32)), .val (.long kc), .second, .val (.long kb), .second, .val (.int (1 : Int32))] [(.int (1 : Int32)), (.ref sv)])) (fun tgt k => ?_) ?_
        · show Steps p.tables e below (T21.setTop (mkF m 161 #[.val (.int fl), .val (.long ka), .second, .val (.long kb), .second, .val (.long kc), .second, .val (.ref sv), .val (.int (0 : Int32)), .val (.int (1 : Int32)), .val (.int (1 : Int32)), .val (.long kc), .second, .val (.int (1 : Int32)), .val (.long kc), .second, .val (.long kb), .second, .val (.int (1 : Int32))] [(.int ((if (own_bf (own_upJ (own_upJ (own_upJ (fun _ => 0) 0 ka) 1 kb) 0 kc) ((own_up (own_up (own_up (fun _ => 0) 0 (0 : Int32)) 1 (1 : Int32)) 0 (0 : Int32)) 1) ((own_up (own_up (own_up (fun _ => 0) 0 (0 : Int32)) 1 (1 : Int32)) 0 (0 : Int32)) 0) 1 0) = 0 then (own_up (own_up (fun _ => 0) 0 ((own_up (own_up (own_up (fun _ => 0) 0 (0 : Int32)) 1 (1 : Int32)) 0 (0 : Int32)) 0)) 1 ((own_up (own_up (own_up (fun _ => 0) 0 (0 : Int32)) 1 (1 : Int32)) 0 (0 : Int32)) 1)) else (own_up (own_up (fun _ => 0) 0 ((own_up (own_up (own_up (fun _ => 0) 0 (0 : Int32)) 1 (1 : Int32)) 0 (0 : Int32)) 1)) 1 ((own_up (own_up (own_up (fun _ => 0) 0 (0 : Int32)) 1 (1 : Int32)) 0 (0 : Int32)) 0))) 0))])) tgt
          refine XS.iload X21.here hx rfl (hb hby at_161) rfl ?_
          show Steps p.tables e below (T21.setTop (mkF m 163 #[.val (.int fl), .val (.long ka), .second, .val (.long kb), .second, .val (.long kc), .second, .val (.ref sv), .val (.int (0 : Int32)), .val (.int (1 : Int32)), .val (.int (1 : Int32)), .val (.long kc), .second, .val (.int (1 : Int32)), .val (.long kc), .second, .val (.long kb), .second, .val (.int (1 : Int32))] [(.int (1 : Int32)), (.int ((if (own_bf (own_upJ (own_upJ (own_upJ (fun _ => 0) 0 ka) 1 kb) 0 kc) ((own_up (own_up (own_up (fun _ => 0) 0 (0 : Int32)) 1 (1 : Int32)) 0 (0 : Int32)) 1) ((own_up (own_up (own_up (fun _ => 0) 0 (0 : Int32)) 1 (1 : Int32)) 0 (0 : Int32)) 0) 1 0) = 0 then (own_up (own_up (fun _ => 0) 0 ((own_up (own_up (own_up (fun _ => 0) 0 (0 : Int32)) 1 (1 : Int32)) 0 (0 : Int32)) 0)) 1 ((own_up (own_up (own_up (fun _ => 0) 0 (0 : Int32)) 1 (1 : Int32)) 0 (0 : Int32)) 1)) else (own_up (own_up (fun _ => 0) 0 ((own_up (own_up (own_up (fun _ => 0) 0 (0 : Int32)) 1 (1 : Int32)) 0 (0 : Int32)) 1)) 1 ((own_up (own_up (own_up (fun _ => 0) 0 (0 : Int32)) 1 (1 : Int32)) 0 (0 : Int32)) 0))) 0))])) tgt
          refine XS.icmpNo X21.here hx rfl (hb hby at_163) rfl (teq (by simp [own_bf, own_b10, own_b01, own_up, own_upJ, hc134])).2 ?_
          show Steps p.tables e below (T21.setTop (mkF m 166 #[.val (.int fl), .val (.long ka), .second, .val (.long kb), .second, .val (.long kc), .second, .val (.ref sv), .val (.int (0 : Int32)), .val (.int (1 : Int32)), .val (.int (1 : Int32)), .val (.long kc), .second, .val (.int (1 : Int32)), .val (.long kc), .second, .val (.long kb), .second, .val (.int (1 : Int32))] [])) tgt
          refine XS.aload X21.here hx rfl (hb hby at_166) rfl rfl ?_
          show Steps p.tables e below (T21.setTop (mkF m 168 #[.val (.int fl), .val (.long ka), .second, .val (.long kb), .second, .val (.long kc), .second, .val (.ref sv), .val (.int (0 : Int32)), .val (.int (1 : Int32)), .val (.int (1 : Int32)), .val (.long kc), .second, .val (.int (1 : Int32)), .val (.long kc), .second, .val (.long kb), .second, .val (.int (1 : Int32))] [(.ref sv)])) tgt
          refine XS.iconst X21.here hx rfl (hb hby at_168) ?_
          exact k
        obtain ⟨cq22, kq22, q22a, q22b, q22c⟩ := isOf hZ K21 E_sv_20
        obtain ⟨v22, _, ⟨T22, L22, k22, n22⟩, -, Xc22, ⟨Lc22, hQ22, l22, y22, z22⟩, st22⟩ := X21.virtualBack hx (y := (⟨"com/example/chainwright/chainwright/KeySort", "number", "(I)I"⟩ : MethodName)) (z := (⟨"com/example/chainwright/chainwright/KeySort", "number", "(I)I"⟩ : MethodName)) hown (mvT hZ (hw _ (List.mem_of_getElem? (i := 22) rfl))) (mvT hZ (hw _ (List.mem_of_getElem? (i := 23) rfl))) (notFace_of_selects (args := #[]) (mvT hZ (hw _ (List.mem_of_getElem? (i := 25) rfl)))) (mvT hZ (hw _ (List.mem_of_getElem? (i := 25) rfl))) (mvT hZ (hw _ (List.mem_of_getElem? (i := 24) rfl))) (by decide) (backOf (W := 0) (rm4 l Z a0 hw [] sv (1 : Int32) nu_2 (if (own_bf (own_upJ (own_upJ (own_upJ (fun _ => 0) 0 ka) 1 kb) 0 kc) ((own_up (own_up (own_up (fun _ => 0) 0 (0 : Int32)) 1 (1 : Int32)) 0 (0 : Int32)) 1) ((own_up (own_up (own_up (fun _ => 0) 0 (0 : Int32)) 1 (1 : Int32)) 0 (0 : Int32)) 0) 1 0) = 0 then (own_up (own_up (fun _ => 0) 0 ((own_up (own_up (own_up (fun _ => 0) 0 (0 : Int32)) 1 (1 : Int32)) 0 (0 : Int32)) 0)) 1 ((own_up (own_up (own_up (fun _ => 0) 0 (0 : Int32)) 1 (1 : Int32)) 0 (0 : Int32)) 1)) else (own_up (own_up (fun _ => 0) 0 ((own_up (own_up (own_up (fun _ => 0) 0 (0 : Int32)) 1 (1 : Int32)) 0 (0 : Int32)) 1)) 1 ((own_up (own_up (own_up (fun _ => 0) 0 (0 : Int32)) 1 (1 : Int32)) 0 (0 : Int32)) 0))) 1 T20.heap n0 Zs20 F_sv_numbers_20 g20_0 (by decide) (by decide)) hZ (hw _ (List.mem_of_getElem? (i := 26) rfl)) (hw _ (List.mem_of_getElem? (i := 2) rfl)) (by decide) (by decide)) q22a q22c (g := (mkF m 169 #[.val (.int fl), .val (.long ka), .second, .val (.long kb), .second, .val (.long kc), .second, .val (.ref sv), .val (.int (0 : Int32)), .val (.int (1 : Int32)), .val (.int (1 : Int32)), .val (.long kc), .second, .val (.int (1 : Int32)), .val (.long kc), .second, .val (.long kb), .second, .val (.int (1 : Int32))] [(.int (1 : Int32)), (.ref sv)])) rfl (by rw [hml]; rfl) (Steps.refl _) (argsL := [(.int (1 : Int32))]) (rest := []) (lenOf pd_0_2 rfl) rfl (by show 2 * 0 + _ ≤ _; exact Nat.le_of_eq rfl) (hb hby at_169) (fun _ _ => ⟨rfl, K21, (by decide : 4 + 0 ≤ _), (by decide : 9 + 0 ≤ _)⟩)
        dsimp only [Pt.U, Pt.locs, Pt.cells, Pt.slots] at Xc22 l22 y22 z22 st22 hQ22
        have X22 := own_cast Xc22 l22 y22 z22
        obtain ⟨ev22, N22q, K22⟩ := hQ22
        rw [ev22] at st22
        have N22 := Fr.app N21 N22q
        refine own_st (fun tgt k => st22.trans k) ?_
        show own_Go p e below _ (T22.setTop (mkF m 172 #[.val (.int fl), .val (.long ka), .second, .val (.long kb), .second, .val (.long kc), .second, .val (.ref sv), .val (.int (0 : Int32)), .val (.int (1 : Int32)), .val (.int (1 : Int32)), .val (.long kc), .second, .val (.int (1 : Int32)), .val (.long kc), .second, .val (.long kb), .second, .val (.int (1 : Int32))] [(.int ((if (own_bf (own_upJ (own_upJ (own_upJ (fun _ => 0) 0 ka) 1 kb) 0 kc) ((own_up (own_up (own_up (fun _ => 0) 0 (0 : Int32)) 1 (1 : Int32)) 0 (0 : Int32)) 1) ((own_up (own_up (own_up (fun _ => 0) 0 (0 : Int32)) 1 (1 : Int32)) 0 (0 : Int32)) 0) 1 0) = 0 then (own_up (own_up (fun _ => 0) 0 ((own_up (own_up (own_up (fun _ => 0) 0 (0 : Int32)) 1 (1 : Int32)) 0 (0 : Int32)) 0)) 1 ((own_up (own_up (own_up (fun _ => 0) 0 (0 : Int32)) 1 (1 : Int32)) 0 (0 : Int32)) 1)) else (own_up (own_up (fun _ => 0) 0 ((own_up (own_up (own_up (fun _ => 0) 0 (0 : Int32)) 1 (1 : Int32)) 0 (0 : Int32)) 1)) 1 ((own_up (own_up (own_up (fun _ => 0) 0 (0 : Int32)) 1 (1 : Int32)) 0 (0 : Int32)) 0))) 1))]))
        refine own_st (V := T22.setTop (mkF m 176 #[.val (.int fl), .val (.long ka), .second, .val (.long kb), .second, .val (.long kc), .second, .val (.ref sv), .val (.int (0 : Int32)), .val (.int (1 : Int32)), .val (.int (1 : Int32)), .val (.long kc), .second, .val (.int (1 : Int32)), .val (.long kc), .second, .val (.long kb), .second, .val (.int (1 : Int32))] [(.int ((1 : Int32) - (1 : Int32))), (.int ((if (own_bf (own_upJ (own_upJ (own_upJ (fun _ => 0) 0 ka) 1 kb) 0 kc) ((own_up (own_up (own_up (fun _ => 0) 0 (0 : Int32)) 1 (1 : Int32)) 0 (0 : Int32)) 1) ((own_up (own_up (own_up (fun _ => 0) 0 (0 : Int32)) 1 (1 : Int32)) 0 (0 : Int32)) 0) 1 0) = 0 then (own_up (own_up (fun _ => 0) 0 ((own_up (own_up (own_up (fun _ => 0) 0 (0 : Int32)) 1 (1 : Int32)) 0 (0 : Int32)) 0)) 1 ((own_up (own_up (own_up (fun _ => 0) 0 (0 : Int32)) 1 (1 : Int32)) 0 (0 : Int32)) 1)) else (own_up (own_up (fun _ => 0) 0 ((own_up (own_up (own_up (fun _ => 0) 0 (0 : Int32)) 1 (1 : Int32)) 0 (0 : Int32)) 1)) 1 ((own_up (own_up (own_up (fun _ => 0) 0 (0 : Int32)) 1 (1 : Int32)) 0 (0 : Int32)) 0))) 1))])) (fun tgt k => ?_) ?_
        · show Steps p.tables e below (T22.setTop (mkF m 172 #[.val (.int fl), .val (.long ka), .second, .val (.long kb), .second, .val (.long kc), .second, .val (.ref sv), .val (.int (0 : Int32)), .val (.int (1 : Int32)), .val (.int (1 : Int32)), .val (.long kc), .second, .val (.int (1 : Int32)), .val (.long kc), .second, .val (.long kb), .second, .val (.int (1 : Int32))] [(.int ((if (own_bf (own_upJ (own_upJ (own_upJ (fun _ => 0) 0 ka) 1 kb) 0 kc) ((own_up (own_up (own_up (fun _ => 0) 0 (0 : Int32)) 1 (1 : Int32)) 0 (0 : Int32)) 1) ((own_up (own_up (own_up (fun _ => 0) 0 (0 : Int32)) 1 (1 : Int32)) 0 (0 : Int32)) 0) 1 0) = 0 then (own_up (own_up (fun _ => 0) 0 ((own_up (own_up (own_up (fun _ => 0) 0 (0 : Int32)) 1 (1 : Int32)) 0 (0 : Int32)) 0)) 1 ((own_up (own_up (own_up (fun _ => 0) 0 (0 : Int32)) 1 (1 : Int32)) 0 (0 : Int32)) 1)) else (own_up (own_up (fun _ => 0) 0 ((own_up (own_up (own_up (fun _ => 0) 0 (0 : Int32)) 1 (1 : Int32)) 0 (0 : Int32)) 1)) 1 ((own_up (own_up (own_up (fun _ => 0) 0 (0 : Int32)) 1 (1 : Int32)) 0 (0 : Int32)) 0))) 1))])) tgt
          refine XS.iconst X22.here hx rfl (hb hby at_172) ?_
          show Steps p.tables e below (T22.setTop (mkF m 173 #[.val (.int fl), .val (.long ka), .second, .val (.long kb), .second, .val (.long kc), .second, .val (.ref sv), .val (.int (0 : Int32)), .val (.int (1 : Int32)), .val (.int (1 : Int32)), .val (.long kc), .second, .val (.int (1 : Int32)), .val (.long kc), .second, .val (.long kb), .second, .val (.int (1 : Int32))] [(.int (1 : Int32)), (.int ((if (own_bf (own_upJ (own_upJ (own_upJ (fun _ => 0) 0 ka) 1 kb) 0 kc) ((own_up (own_up (own_up (fun _ => 0) 0 (0 : Int32)) 1 (1 : Int32)) 0 (0 : Int32)) 1) ((own_up (own_up (own_up (fun _ => 0) 0 (0 : Int32)) 1 (1 : Int32)) 0 (0 : Int32)) 0) 1 0) = 0 then (own_up (own_up (fun _ => 0) 0 ((own_up (own_up (own_up (fun _ => 0) 0 (0 : Int32)) 1 (1 : Int32)) 0 (0 : Int32)) 0)) 1 ((own_up (own_up (own_up (fun _ => 0) 0 (0 : Int32)) 1 (1 : Int32)) 0 (0 : Int32)) 1)) else (own_up (own_up (fun _ => 0) 0 ((own_up (own_up (own_up (fun _ => 0) 0 (0 : Int32)) 1 (1 : Int32)) 0 (0 : Int32)) 1)) 1 ((own_up (own_up (own_up (fun _ => 0) 0 (0 : Int32)) 1 (1 : Int32)) 0 (0 : Int32)) 0))) 1))])) tgt
          refine XS.iload X22.here hx rfl (hb hby at_173) rfl ?_
          show Steps p.tables e below (T22.setTop (mkF m 175 #[.val (.int fl), .val (.long ka), .second, .val (.long kb), .second, .val (.long kc), .second, .val (.ref sv), .val (.int (0 : Int32)), .val (.int (1 : Int32)), .val (.int (1 : Int32)), .val (.long kc), .second, .val (.int (1 : Int32)), .val (.long kc), .second, .val (.long kb), .second, .val (.int (1 : Int32))] [(.int (1 : Int32)), (.int (1 : Int32)), (.int ((if (own_bf (own_upJ (own_upJ (own_upJ (fun _ => 0) 0 ka) 1 kb) 0 kc) ((own_up (own_up (own_up (fun _ => 0) 0 (0 : Int32)) 1 (1 : Int32)) 0 (0 : Int32)) 1) ((own_up (own_up (own_up (fun _ => 0) 0 (0 : Int32)) 1 (1 : Int32)) 0 (0 : Int32)) 0) 1 0) = 0 then (own_up (own_up (fun _ => 0) 0 ((own_up (own_up (own_up (fun _ => 0) 0 (0 : Int32)) 1 (1 : Int32)) 0 (0 : Int32)) 0)) 1 ((own_up (own_up (own_up (fun _ => 0) 0 (0 : Int32)) 1 (1 : Int32)) 0 (0 : Int32)) 1)) else (own_up (own_up (fun _ => 0) 0 ((own_up (own_up (own_up (fun _ => 0) 0 (0 : Int32)) 1 (1 : Int32)) 0 (0 : Int32)) 1)) 1 ((own_up (own_up (own_up (fun _ => 0) 0 (0 : Int32)) 1 (1 : Int32)) 0 (0 : Int32)) 0))) 1))])) tgt
          refine XS.isub X22.here hx rfl (hb hby at_175) rfl ?_
          exact k
        rw [show ((1 : Int32) - (1 : Int32)) = (0 : Int32) from by decide]
        refine own_st (V := T22.setTop (mkF m 184 #[.val (.int fl), .val (.long ka), .second, .val (.long kb), .second, .val (.long kc), .second, .val (.ref sv), .val (.int (0 : Int32)), .val (.int (1 : Int32)), .val (.int (1 : Int32)), .val (.long kc), .second, .val (.int (1 : Int32)), .val (.long kc), .second, .val (.long kb), .second, .val (.int (1 : Int32))] [(.int (1 : Int32))])) (fun tgt k => ?_) ?_
        · show Steps p.tables e below (T22.setTop (mkF m 176 #[.val (.int fl), .val (.long ka), .second, .val (.long kb), .second, .val (.long kc), .second, .val (.ref sv), .val (.int (0 : Int32)), .val (.int (1 : Int32)), .val (.int (1 : Int32)), .val (.long kc), .second, .val (.int (1 : Int32)), .val (.long kc), .second, .val (.long kb), .second, .val (.int (1 : Int32))] [(.int (0 : Int32)), (.int ((if (own_bf (own_upJ (own_upJ (own_upJ (fun _ => 0) 0 ka) 1 kb) 0 kc) ((own_up (own_up (own_up (fun _ => 0) 0 (0 : Int32)) 1 (1 : Int32)) 0 (0 : Int32)) 1) ((own_up (own_up (own_up (fun _ => 0) 0 (0 : Int32)) 1 (1 : Int32)) 0 (0 : Int32)) 0) 1 0) = 0 then (own_up (own_up (fun _ => 0) 0 ((own_up (own_up (own_up (fun _ => 0) 0 (0 : Int32)) 1 (1 : Int32)) 0 (0 : Int32)) 0)) 1 ((own_up (own_up (own_up (fun _ => 0) 0 (0 : Int32)) 1 (1 : Int32)) 0 (0 : Int32)) 1)) else (own_up (own_up (fun _ => 0) 0 ((own_up (own_up (own_up (fun _ => 0) 0 (0 : Int32)) 1 (1 : Int32)) 0 (0 : Int32)) 1)) 1 ((own_up (own_up (own_up (fun _ => 0) 0 (0 : Int32)) 1 (1 : Int32)) 0 (0 : Int32)) 0))) 1))])) tgt
          refine XS.icmpNo X22.here hx rfl (hb hby at_176) rfl (teq (by simp [own_bf, own_b10, own_b01, own_up, own_upJ, hc134])).2 ?_
          show Steps p.tables e below (T22.setTop (mkF m 179 #[.val (.int fl), .val (.long ka), .second, .val (.long kb), .second, .val (.long kc), .second, .val (.ref sv), .val (.int (0 : Int32)), .val (.int (1 : Int32)), .val (.int (1 : Int32)), .val (.long kc), .second, .val (.int (1 : Int32)), .val (.long kc), .second, .val (.long kb), .second, .val (.int (1 : Int32))] [])) tgt
          refine XS.iconst X22.here hx rfl (hb hby at_179) ?_
          show Steps p.tables e below (T22.setTop (mkF m 180 #[.val (.int fl), .val (.long ka), .second, .val (.long kb), .second, .val (.long kc), .second, .val (.ref sv), .val (.int (0 : Int32)), .val (.int (1 : Int32)), .val (.int (1 : Int32)), .val (.long kc), .second, .val (.int (1 : Int32)), .val (.long kc), .second, .val (.long kb), .second, .val (.int (1 : Int32))] [(.int (1 : Int32))])) tgt
          refine XS.goto X22.here hx rfl (pc0 := 180) (pc' := 184) rfl (hb hby at_180) (by decide) (by decide) ?_
          exact k
        refine own_retN X22 hx hlk (t := .boolean) (z' := (1 : Int32)) Bd.returns (by simp) rfl (hb hby at_184) ?_ (by decide) (by decide)
        show Q0 Z fl ka kb kc h0 n0 (some (.int (1 : Int32))) T22.heap _
        rw [K22]
        exact ⟨rfl, N22⟩
      · skip
        refine own_st (V := T19.setTop (mkF m 147 #[.val (.int fl), .val (.long ka), .second, .val (.long kb), .second, .val (.long kc), .second, .val (.ref sv), .val (.int (0 : Int32)), .val (.int (1 : Int32)), .val (.int (1 : Int32)), .val (.long kc), .second, .val (.int (1 : Int32)), .val (.long kc), .second, .val (.long kb), .second, .val (.int (0 : Int32))] [(.int (2 : Int32)), (.ref sv)])) (fun tgt k => ?_) ?_
        · show Steps p.tables e below (T19.setTop (mkF m 134 #[.val (.int fl), .val (.long ka), .second, .val (.long kb), .second, .val (.long kc), .second, .val (.ref sv), .val (.int (0 : Int32)), .val (.int (1 : Int32)), .val (.int (1 : Int32)), .val (.long kc), .second, .val (.int (1 : Int32)), .val (.long kc), .second, .val (.long kb), .second, .unset] [(.int (lcmpW kb kc))])) tgt
          refine XS.ifYes X19.here hx rfl (pc0 := 134) (pc' := 141) rfl (hb hby at_134) rfl ((if0 _ _).trans (flt (fun q => hc134 ((lw_lt kb kc).mp q))).2.1) (by decide) (by decide) ?_
          show Steps p.tables e below (T19.setTop (mkF m 141 #[.val (.int fl), .val (.long ka), .second, .val (.long kb), .second, .val (.long kc), .second, .val (.ref sv), .val (.int (0 : Int32)), .val (.int (1 : Int32)), .val (.int (1 : Int32)), .val (.long kc), .second, .val (.int (1 : Int32)), .val (.long kc), .second, .val (.long kb), .second, .unset] [])) tgt
          refine XS.iconst X19.here hx rfl (hb hby at_141) ?_
          show Steps p.tables e below (T19.setTop (mkF m 142 #[.val (.int fl), .val (.long ka), .second, .val (.long kb), .second, .val (.long kc), .second, .val (.ref sv), .val (.int (0 : Int32)), .val (.int (1 : Int32)), .val (.int (1 : Int32)), .val (.long kc), .second, .val (.int (1 : Int32)), .val (.long kc), .second, .val (.long kb), .second, .unset] [(.int (0 : Int32))])) tgt
          refine XS.istore X19.here hx rfl (hb hby at_142) rfl (l' := #[.val (.int fl), .val (.long ka), .second, .val (.long kb), .second, .val (.long kc), .second, .val (.ref sv), .val (.int (0 : Int32)), .val (.int (1 : Int32)), .val (.int (1 : Int32)), .val (.long kc), .second, .val (.int (1 : Int32)), .val (.long kc), .second, .val (.long kb), .second, .val (.int (0 : Int32))]) rfl ?_
          show Steps p.tables e below (T19.setTop (mkF m 144 #[.val (.int fl), .val (.long ka), .second, .val (.long kb), .second, .val (.long kc), .second, .val (.ref sv), .val (.int (0 : Int32)), .val (.int (1 : Int32)), .val (.int (1 : Int32)), .val (.long kc), .second, .val (.int (1 : Int32)), .val (.long kc), .second, .val (.long kb), .second, .val (.int (0 : Int32))] [])) tgt
          refine XS.aload X19.here hx rfl (hb hby at_144) rfl rfl ?_
          show Steps p.tables e below (T19.setTop (mkF m 146 #[.val (.int fl), .val (.long ka), .second, .val (.long kb), .second, .val (.long kc), .second, .val (.ref sv), .val (.int (0 : Int32)), .val (.int (1 : Int32)), .val (.int (1 : Int32)), .val (.long kc), .second, .val (.int (1 : Int32)), .val (.long kc), .second, .val (.long kb), .second, .val (.int (0 : Int32))] [(.ref sv)])) tgt
          refine XS.iconst X19.here hx rfl (hb hby at_146) ?_
          exact k
        obtain ⟨cq24, kq24, q24a, q24b, q24c⟩ := isOf hZ K19 E_sv_17
        obtain ⟨v24, _, ⟨T24, L24, k24, n24⟩, -, Xc24, ⟨Lc24, hQ24, l24, y24, z24⟩, st24⟩ := X19.virtualBack hx (y := (⟨"com/example/chainwright/chainwright/KeySort", "sort", "(I)V"⟩ : MethodName)) (z := (⟨"com/example/chainwright/chainwright/KeySort", "sort", "(I)V"⟩ : MethodName)) hown (mvT hZ (hw _ (List.mem_of_getElem? (i := 27) rfl))) (mvT hZ (hw _ (List.mem_of_getElem? (i := 28) rfl))) (notFace_of_selects (args := #[]) (mvT hZ (hw _ (List.mem_of_getElem? (i := 30) rfl)))) (mvT hZ (hw _ (List.mem_of_getElem? (i := 30) rfl))) (mvT hZ (hw _ (List.mem_of_getElem? (i := 29) rfl))) (by decide) (backOf (W := 0) (rm5 l Z a0 hw [] sv (2 : Int32) nu_2 ke_2 ro_2 (own_up (own_up (own_up (fun _ => 0) 0 (0 : Int32)) 1 (1 : Int32)) 0 (0 : Int32)) (own_upJ (own_upJ (own_upJ (fun _ => 0) 0 ka) 1 kb) 0 kc) (fun _ => 0) 0 1 T17.heap n0 Zs17 E_sv_17 F_sv_numbers_17 F_sv_keys_17 F_sv_room_17 g17_0 g17_1 A_ro_2_17 g2_3 g2_5 g2_6 g2_7 g2_8 ne_sv_nu_2 ne_sv_ro_2 rfl (by decide) (by decide) (by decide) (by decide)) hZ (hw _ (List.mem_of_getElem? (i := 31) rfl)) (hw _ (List.mem_of_getElem? (i := 2) rfl)) (by decide) (by decide)) q24a q24c (g := (mkF m 147 #[.val (.int fl), .val (.long ka), .second, .val (.long kb), .second, .val (.long kc), .second, .val (.ref sv), .val (.int (0 : Int32)), .val (.int (1 : Int32)), .val (.int (1 : Int32)), .val (.long kc), .second, .val (.int (1 : Int32)), .val (.long kc), .second, .val (.long kb), .second, .val (.int (0 : Int32))] [(.int (2 : Int32)), (.ref sv)])) rfl (by rw [hml]; rfl) (Steps.refl _) (argsL := [(.int (2 : Int32))]) (rest := []) (lenOf pd_0_0 rfl) rfl (by show 2 * 0 + _ ≤ _; exact Nat.le_of_eq rfl) (hb hby at_147) (fun _ _ => ⟨rfl, K19, (by decide : 4 + 0 ≤ _), (by decide : 9 + 0 ≤ _)⟩)
        dsimp only [Pt.U, Pt.locs, Pt.cells, Pt.slots] at Xc24 l24 y24 z24 st24 hQ24
        have X24 := own_cast Xc24 l24 y24 z24
        obtain ⟨ev24, N24q, K24, g24_0⟩ := hQ24
        rw [ev24] at st24
        have N24 := Fr.app N19 N24q
        have E_sv_24 := E_sv_17.keep K24
        have F_sv_numbers_24 := F_sv_numbers_17.keep K24 (ninS ne_sv_nu_2 (ninS ne_sv_ro_2 nin0))
        have F_sv_keys_24 := F_sv_keys_17.keep K24 (ninS ne_sv_nu_2 (ninS ne_sv_ro_2 nin0))
        have F_sv_room_24 := F_sv_room_17.keep K24 (ninS ne_sv_nu_2 (ninS ne_sv_ro_2 nin0))
        have A_ke_2_24 := g17_1.keep K24 (ninS (Ne.symm g2_6) (ninS g2_8 nin0))
        have Zs24 : n0 ≤ T24.heap.size := Nat.le_trans Zs17 K24.1
        refine own_st (fun tgt k => st24.trans k) ?_
        show own_Go p e below _ (T24.setTop (mkF m 150 #[.val (.int fl), .val (.long ka), .second, .val (.long kb), .second, .val (.long kc), .second, .val (.ref sv), .val (.int (0 : Int32)), .val (.int (1 : Int32)), .val (.int (1 : Int32)), .val (.long kc), .second, .val (.int (1 : Int32)), .val (.long kc), .second, .val (.long kb), .second, .val (.int (0 : Int32))] []))
        refine own_st (V := T24.setTop (mkF m 158 #[.val (.int fl), .val (.long ka), .second, .val (.long kb), .second, .val (.long kc), .second, .val (.ref sv), .val (.int (0 : Int32)), .val (.int (1 : Int32)), .val (.int (1 : Int32)), .val (.long kc), .second, .val (.int (1 : Int32)), .val (.long kc), .second, .val (.long kb), .second, .val (.int (0 : Int32))] [(.int (0 : Int32)), (.ref sv)])) (fun tgt k => ?_) ?_
        · show Steps p.tables e below (T24.setTop (mkF m 150 #[.val (.int fl), .val (.long ka), .second, .val (.long kb), .second, .val (.long kc), .second, .val (.ref sv), .val (.int (0 : Int32)), .val (.int (1 : Int32)), .val (.int (1 : Int32)), .val (.long kc), .second, .val (.int (1 : Int32)), .val (.long kc), .second, .val (.long kb), .second, .val (.int (0 : Int32))] [])) tgt
          refine XS.iload X24.here hx rfl (hb hby at_150) rfl ?_
          show Steps p.tables e below (T24.setTop (mkF m 152 #[.val (.int fl), .val (.long ka), .second, .val (.long kb), .second, .val (.long kc), .second, .val (.ref sv), .val (.int (0 : Int32)), .val (.int (1 : Int32)), .val (.int (1 : Int32)), .val (.long kc), .second, .val (.int (1 : Int32)), .val (.long kc), .second, .val (.long kb), .second, .val (.int (0 : Int32))] [(.int (1 : Int32))])) tgt
          refine XS.ifNo X24.here hx rfl (hb hby at_152) rfl ((if0 _ _).trans (feq (by decide : ¬ ((1 : Int32) = (0 : Int32)))).1) ?_
          show Steps p.tables e below (T24.setTop (mkF m 155 #[.val (.int fl), .val (.long ka), .second, .val (.long kb), .second, .val (.long kc), .second, .val (.ref sv), .val (.int (0 : Int32)), .val (.int (1 : Int32)), .val (.int (1 : Int32)), .val (.long kc), .second, .val (.int (1 : Int32)), .val (.long kc), .second, .val (.long kb), .second, .val (.int (0 : Int32))] [])) tgt
          refine XS.aload X24.here hx rfl (hb hby at_155) rfl rfl ?_
          show Steps p.tables e below (T24.setTop (mkF m 157 #[.val (.int fl), .val (.long ka), .second, .val (.long kb), .second, .val (.long kc), .second, .val (.ref sv), .val (.int (0 : Int32)), .val (.int (1 : Int32)), .val (.int (1 : Int32)), .val (.long kc), .second, .val (.int (1 : Int32)), .val (.long kc), .second, .val (.long kb), .second, .val (.int (0 : Int32))] [(.ref sv)])) tgt
          refine XS.iconst X24.here hx rfl (hb hby at_157) ?_
          exact k
        obtain ⟨cq25, kq25, q25a, q25b, q25c⟩ := isOf hZ rfl E_sv_24
        obtain ⟨v25, _, ⟨T25, L25, k25, n25⟩, -, Xc25, ⟨Lc25, hQ25, l25, y25, z25⟩, st25⟩ := X24.virtualBack hx (y := (⟨"com/example/chainwright/chainwright/KeySort", "number", "(I)I"⟩ : MethodName)) (z := (⟨"com/example/chainwright/chainwright/KeySort", "number", "(I)I"⟩ : MethodName)) hown (mvT hZ (hw _ (List.mem_of_getElem? (i := 22) rfl))) (mvT hZ (hw _ (List.mem_of_getElem? (i := 23) rfl))) (notFace_of_selects (args := #[]) (mvT hZ (hw _ (List.mem_of_getElem? (i := 25) rfl)))) (mvT hZ (hw _ (List.mem_of_getElem? (i := 25) rfl))) (mvT hZ (hw _ (List.mem_of_getElem? (i := 24) rfl))) (by decide) (backOf (W := 0) (rm4 l Z a0 hw [] sv (0 : Int32) nu_2 (if (own_bf (own_upJ (own_upJ (own_upJ (fun _ => 0) 0 ka) 1 kb) 0 kc) ((own_up (own_up (own_up (fun _ => 0) 0 (0 : Int32)) 1 (1 : Int32)) 0 (0 : Int32)) 1) ((own_up (own_up (own_up (fun _ => 0) 0 (0 : Int32)) 1 (1 : Int32)) 0 (0 : Int32)) 0) 1 0) = 0 then (own_up (own_up (fun _ => 0) 0 ((own_up (own_up (own_up (fun _ => 0) 0 (0 : Int32)) 1 (1 : Int32)) 0 (0 : Int32)) 0)) 1 ((own_up (own_up (own_up (fun _ => 0) 0 (0 : Int32)) 1 (1 : Int32)) 0 (0 : Int32)) 1)) else (own_up (own_up (fun _ => 0) 0 ((own_up (own_up (own_up (fun _ => 0) 0 (0 : Int32)) 1 (1 : Int32)) 0 (0 : Int32)) 1)) 1 ((own_up (own_up (own_up (fun _ => 0) 0 (0 : Int32)) 1 (1 : Int32)) 0 (0 : Int32)) 0))) 0 T24.heap n0 Zs24 F_sv_numbers_24 g24_0 (by decide) (by decide)) hZ (hw _ (List.mem_of_getElem? (i := 26) rfl)) (hw _ (List.mem_of_getElem? (i := 2) rfl)) (by decide) (by decide)) q25a q25c (g := (mkF m 158 #[.val (.int fl), .val (.long ka), .second, .val (.long kb), .second, .val (.long kc), .second, .val (.ref sv), .val (.int (0 : Int32)), .val (.int (1 : Int32)), .val (.int (1 : Int32)), .val (.long kc), .second, .val (.int (1 : Int32)), .val (.long kc), .second, .val (.long kb), .second, .val (.int (0 : Int32))] [(.int (0 : Int32)), (.ref sv)])) rfl (by rw [hml]; rfl) (Steps.refl _) (argsL := [(.int (0 : Int32))]) (rest := []) (lenOf pd_0_2 rfl) rfl (by show 2 * 0 + _ ≤ _; exact Nat.le_of_eq rfl) (hb hby at_158) (fun _ _ => ⟨rfl, rfl, (by decide : 4 + 0 ≤ _), (by decide : 9 + 0 ≤ _)⟩)
        dsimp only [Pt.U, Pt.locs, Pt.cells, Pt.slots] at Xc25 l25 y25 z25 st25 hQ25
        have X25 := own_cast Xc25 l25 y25 z25
        obtain ⟨ev25, N25q, K25⟩ := hQ25
        rw [ev25] at st25
        have N25 := Fr.app N24 N25q
        refine own_st (fun tgt k => st25.trans k) ?_
        show own_Go p e below _ (T25.setTop (mkF m 161 #[.val (.int fl), .val (.long ka), .second, .val (.long kb), .second, .val (.long kc), .second, .val (.ref sv), .val (.int (0 : Int32)), .val (.int (1 : Int32)), .val (.int (1 : Int32)), .val (.long kc), .second, .val (.int (1 : Int32)), .val (.long kc), .second, .val (.long kb), .second, .val (.int (0 : Int32))] [(.int ((if (own_bf (own_upJ (own_upJ (own_upJ (fun _ => 0) 0 ka) 1 kb) 0 kc) ((own_up (own_up (own_up (fun _ => 0) 0 (0 : Int32)) 1 (1 : Int32)) 0 (0 : Int32)) 1) ((own_up (own_up (own_up (fun _ => 0) 0 (0 : Int32)) 1 (1 : Int32)) 0 (0 : Int32)) 0) 1 0) = 0 then (own_up (own_up (fun _ => 0) 0 ((own_up (own_up (own_up (fun _ => 0) 0 (0 : Int32)) 1 (1 : Int32)) 0 (0 : Int32)) 0)) 1 ((own_up (own_up (own_up (fun _ => 0) 0 (0 : Int32)) 1 (1 : Int32)) 0 (0 : Int32)) 1)) else (own_up (own_up (fun _ => 0) 0 ((own_up (own_up (own_up (fun _ => 0) 0 (0 : Int32)) 1 (1 : Int32)) 0 (0 : Int32)) 1)) 1 ((own_up (own_up (own_up (fun _ => 0) 0 (0 : Int32)) 1 (1 : Int32)) 0 (0 : Int32)) 0))) 0))]))
        refine own_st (V := T25.setTop (mkF m 169 #[.val (.int fl), .val (.long ka), .second, .val (.long kb), .second, .val (.long kc), .second, .val (.ref sv), .val (.int (0 : Int32)), .val (.int (1 : Int32)), .val (.int (1 : Int32)), .val (.long kc), .second, .val (.int (1 : Int32)), .val (.long kc), .second, .val (.long kb), .second, .val (.int (0 : Int32))] [(.int (1 : Int32)), (.ref sv)])) (fun tgt k => ?_) ?_
        · show Steps p.tables e below (T25.setTop (mkF m 161 #[.val (.int fl), .val (.long ka), .second, .val (.long kb), .second, .val (.long kc), .second, .val (.ref sv), .val (.int (0 : Int32)), .val (.int (1 : Int32)), .val (.int (1 : Int32)), .val (.long kc), .second, .val (.int (1 : Int32)), .val (.long kc), .second, .val (.long kb), .second, .val (.int (0 : Int32))] [(.int ((if (own_bf (own_upJ (own_upJ (own_upJ (fun _ => 0) 0 ka) 1 kb) 0 kc) ((own_up (own_up (own_up (fun _ => 0) 0 (0 : Int32)) 1 (1 : Int32)) 0 (0 : Int32)) 1) ((own_up (own_up (own_up (fun _ => 0) 0 (0 : Int32)) 1 (1 : Int32)) 0 (0 : Int32)) 0) 1 0) = 0 then (own_up (own_up (fun _ => 0) 0 ((own_up (own_up (own_up (fun _ => 0) 0 (0 : Int32)) 1 (1 : Int32)) 0 (0 : Int32)) 0)) 1 ((own_up (own_up (own_up (fun _ => 0) 0 (0 : Int32)) 1 (1 : Int32)) 0 (0 : Int32)) 1)) else (own_up (own_up (fun _ => 0) 0 ((own_up (own_up (own_up (fun _ => 0) 0 (0 : Int32)) 1 (1 : Int32)) 0 (0 : Int32)) 1)) 1 ((own_up (own_up (own_up (fun _ => 0) 0 (0 : Int32)) 1 (1 : Int32)) 0 (0 : Int32)) 0))) 0))])) tgt
          refine XS.iload X25.here hx rfl (hb hby at_161) rfl ?_
          show Steps p.tables e below (T25.setTop (mkF m 163 #[.val (.int fl), .val (.long ka), .second, .val (.long kb), .second, .val (.long kc), .second, .val (.ref sv), .val (.int (0 : Int32)), .val (.int (1 : Int32)), .val (.int (1 : Int32)), .val (.long kc), .second, .val (.int (1 : Int32)), .val (.long kc), .second, .val (.long kb), .second, .val (.int (0 : Int32))] [(.int (0 : Int32)), (.int ((if (own_bf (own_upJ (own_upJ (own_upJ (fun _ => 0) 0 ka) 1 kb) 0 kc) ((own_up (own_up (own_up (fun _ => 0) 0 (0 : Int32)) 1 (1 : Int32)) 0 (0 : Int32)) 1) ((own_up (own_up (own_up (fun _ => 0) 0 (0 : Int32)) 1 (1 : Int32)) 0 (0 : Int32)) 0) 1 0) = 0 then (own_up (own_up (fun _ => 0) 0 ((own_up (own_up (own_up (fun _ => 0) 0 (0 : Int32)) 1 (1 : Int32)) 0 (0 : Int32)) 0)) 1 ((own_up (own_up (own_up (fun _ => 0) 0 (0 : Int32)) 1 (1 : Int32)) 0 (0 : Int32)) 1)) else (own_up (own_up (fun _ => 0) 0 ((own_up (own_up (own_up (fun _ => 0) 0 (0 : Int32)) 1 (1 : Int32)) 0 (0 : Int32)) 1)) 1 ((own_up (own_up (own_up (fun _ => 0) 0 (0 : Int32)) 1 (1 : Int32)) 0 (0 : Int32)) 0))) 0))])) tgt
          refine XS.icmpNo X25.here hx rfl (hb hby at_163) rfl (teq (by simp [own_bf, own_b10, own_b01, own_up, own_upJ, hc134])).2 ?_
          show Steps p.tables e below (T25.setTop (mkF m 166 #[.val (.int fl), .val (.long ka), .second, .val (.long kb), .second, .val (.long kc), .second, .val (.ref sv), .val (.int (0 : Int32)), .val (.int (1 : Int32)), .val (.int (1 : Int32)), .val (.long kc), .second, .val (.int (1 : Int32)), .val (.long kc), .second, .val (.long kb), .second, .val (.int (0 : Int32))] [])) tgt
          refine XS.aload X25.here hx rfl (hb hby at_166) rfl rfl ?_
          show Steps p.tables e below (T25.setTop (mkF m 168 #[.val (.int fl), .val (.long ka), .second, .val (.long kb), .second, .val (.long kc), .second, .val (.ref sv), .val (.int (0 : Int32)), .val (.int (1 : Int32)), .val (.int (1 : Int32)), .val (.long kc), .second, .val (.int (1 : Int32)), .val (.long kc), .second, .val (.long kb), .second, .val (.int (0 : Int32))] [(.ref sv)])) tgt
          refine XS.iconst X25.here hx rfl (hb hby at_168) ?_
          exact k
        obtain ⟨cq26, kq26, q26a, q26b, q26c⟩ := isOf hZ K25 E_sv_24
        obtain ⟨v26, _, ⟨T26, L26, k26, n26⟩, -, Xc26, ⟨Lc26, hQ26, l26, y26, z26⟩, st26⟩ := X25.virtualBack hx (y := (⟨"com/example/chainwright/chainwright/KeySort", "number", "(I)I"⟩ : MethodName)) (z := (⟨"com/example/chainwright/chainwright/KeySort", "number", "(I)I"⟩ : MethodName)) hown (mvT hZ (hw _ (List.mem_of_getElem? (i := 22) rfl))) (mvT hZ (hw _ (List.mem_of_getElem? (i := 23) rfl))) (notFace_of_selects (args := #[]) (mvT hZ (hw _ (List.mem_of_getElem? (i := 25) rfl)))) (mvT hZ (hw _ (List.mem_of_getElem? (i := 25) rfl))) (mvT hZ (hw _ (List.mem_of_getElem? (i := 24) rfl))) (by decide) (backOf (W := 0) (rm4 l Z a0 hw [] sv (1 : Int32) nu_2 (if (own_bf (own_upJ (own_upJ (own_upJ (fun _ => 0) 0 ka) 1 kb) 0 kc) ((own_up (own_up (own_up (fun _ => 0) 0 (0 : Int32)) 1 (1 : Int32)) 0 (0 : Int32)) 1) ((own_up (own_up (own_up (fun _ => 0) 0 (0 : Int32)) 1 (1 : Int32)) 0 (0 : Int32)) 0) 1 0) = 0 then (own_up (own_up (fun _ => 0) 0 ((own_up (own_up (own_up (fun _ => 0) 0 (0 : Int32)) 1 (1 : Int32)) 0 (0 : Int32)) 0)) 1 ((own_up (own_up (own_up (fun _ => 0) 0 (0 : Int32)) 1 (1 : Int32)) 0 (0 : Int32)) 1)) else (own_up (own_up (fun _ => 0) 0 ((own_up (own_up (own_up (fun _ => 0) 0 (0 : Int32)) 1 (1 : Int32)) 0 (0 : Int32)) 1)) 1 ((own_up (own_up (own_up (fun _ => 0) 0 (0 : Int32)) 1 (1 : Int32)) 0 (0 : Int32)) 0))) 1 T24.heap n0 Zs24 F_sv_numbers_24 g24_0 (by decide) (by decide)) hZ (hw _ (List.mem_of_getElem? (i := 26) rfl)) (hw _ (List.mem_of_getElem? (i := 2) rfl)) (by decide) (by decide)) q26a q26c (g := (mkF m 169 #[.val (.int fl), .val (.long ka), .second, .val (.long kb), .second, .val (.long kc), .second, .val (.ref sv), .val (.int (0 : Int32)), .val (.int (1 : Int32)), .val (.int (1 : Int32)), .val (.long kc), .second, .val (.int (1 : Int32)), .val (.long kc), .second, .val (.long kb), .second, .val (.int (0 : Int32))] [(.int (1 : Int32)), (.ref sv)])) rfl (by rw [hml]; rfl) (Steps.refl _) (argsL := [(.int (1 : Int32))]) (rest := []) (lenOf pd_0_2 rfl) rfl (by show 2 * 0 + _ ≤ _; exact Nat.le_of_eq rfl) (hb hby at_169) (fun _ _ => ⟨rfl, K25, (by decide : 4 + 0 ≤ _), (by decide : 9 + 0 ≤ _)⟩)
        dsimp only [Pt.U, Pt.locs, Pt.cells, Pt.slots] at Xc26 l26 y26 z26 st26 hQ26
        have X26 := own_cast Xc26 l26 y26 z26
        obtain ⟨ev26, N26q, K26⟩ := hQ26
        rw [ev26] at st26
        have N26 := Fr.app N25 N26q
        refine own_st (fun tgt k => st26.trans k) ?_
        show own_Go p e below _ (T26.setTop (mkF m 172 #[.val (.int fl), .val (.long ka), .second, .val (.long kb), .second, .val (.long kc), .second, .val (.ref sv), .val (.int (0 : Int32)), .val (.int (1 : Int32)), .val (.int (1 : Int32)), .val (.long kc), .second, .val (.int (1 : Int32)), .val (.long kc), .second, .val (.long kb), .second, .val (.int (0 : Int32))] [(.int ((if (own_bf (own_upJ (own_upJ (own_upJ (fun _ => 0) 0 ka) 1 kb) 0 kc) ((own_up (own_up (own_up (fun _ => 0) 0 (0 : Int32)) 1 (1 : Int32)) 0 (0 : Int32)) 1) ((own_up (own_up (own_up (fun _ => 0) 0 (0 : Int32)) 1 (1 : Int32)) 0 (0 : Int32)) 0) 1 0) = 0 then (own_up (own_up (fun _ => 0) 0 ((own_up (own_up (own_up (fun _ => 0) 0 (0 : Int32)) 1 (1 : Int32)) 0 (0 : Int32)) 0)) 1 ((own_up (own_up (own_up (fun _ => 0) 0 (0 : Int32)) 1 (1 : Int32)) 0 (0 : Int32)) 1)) else (own_up (own_up (fun _ => 0) 0 ((own_up (own_up (own_up (fun _ => 0) 0 (0 : Int32)) 1 (1 : Int32)) 0 (0 : Int32)) 1)) 1 ((own_up (own_up (own_up (fun _ => 0) 0 (0 : Int32)) 1 (1 : Int32)) 0 (0 : Int32)) 0))) 1))]))
        refine own_st (V := T26.setTop (mkF m 176 #[.val (.int fl), .val (.long ka), .second, .val (.long kb), .second, .val (.long kc), .second, .val (.ref sv), .val (.int (0 : Int32)), .val (.int (1 : Int32)), .val (.int (1 : Int32)), .val (.long kc), .second, .val (.int (1 : Int32)), .val (.long kc), .second, .val (.long kb), .second, .val (.int (0 : Int32))] [(.int ((1 : Int32) - (0 : Int32))), (.int ((if (own_bf (own_upJ (own_upJ (own_upJ (fun _ => 0) 0 ka) 1 kb) 0 kc) ((own_up (own_up (own_up (fun _ => 0) 0 (0 : Int32)) 1 (1 : Int32)) 0 (0 : Int32)) 1) ((own_up (own_up (own_up (fun _ => 0) 0 (0 : Int32)) 1 (1 : Int32)) 0 (0 : Int32)) 0) 1 0) = 0 then (own_up (own_up (fun _ => 0) 0 ((own_up (own_up (own_up (fun _ => 0) 0 (0 : Int32)) 1 (1 : Int32)) 0 (0 : Int32)) 0)) 1 ((own_up (own_up (own_up (fun _ => 0) 0 (0 : Int32)) 1 (1 : Int32)) 0 (0 : Int32)) 1)) else (own_up (own_up (fun _ => 0) 0 ((own_up (own_up (own_up (fun _ => 0) 0 (0 : Int32)) 1 (1 : Int32)) 0 (0 : Int32)) 1)) 1 ((own_up (own_up (own_up (fun _ => 0) 0 (0 : Int32)) 1 (1 : Int32)) 0 (0 : Int32)) 0))) 1))])) (fun tgt k => ?_) ?_
        · show Steps p.tables e below (T26.setTop (mkF m 172 #[.val (.int fl), .val (.long ka), .second, .val (.long kb), .second, .val (.long kc), .second, .val (.ref sv), .val (.int (0 : Int32)), .val (.int (1 : Int32)), .val (.int (1 : Int32)), .val (.long kc), .second, .val (.int (1 : Int32)), .val (.long kc), .second, .val (.long kb), .second, .val (.int (0 : Int32))] [(.int ((if (own_bf (own_upJ (own_upJ (own_upJ (fun _ => 0) 0 ka) 1 kb) 0 kc) ((own_up (own_up (own_up (fun _ => 0) 0 (0 : Int32)) 1 (1 : Int32)) 0 (0 : Int32)) 1) ((own_up (own_up (own_up (fun _ => 0) 0 (0 : Int32)) 1 (1 : Int32)) 0 (0 : Int32)) 0) 1 0) = 0 then (own_up (own_up (fun _ => 0) 0 ((own_up (own_up (own_up (fun _ => 0) 0 (0 : Int32)) 1 (1 : Int32)) 0 (0 : Int32)) 0)) 1 ((own_up (own_up (own_up (fun _ => 0) 0 (0 : Int32)) 1 (1 : Int32)) 0 (0 : Int32)) 1)) else (own_up (own_up (fun _ => 0) 0 ((own_up (own_up (own_up (fun _ => 0) 0 (0 : Int32)) 1 (1 : Int32)) 0 (0 : Int32)) 1)) 1 ((own_up (own_up (own_up (fun _ => 0) 0 (0 : Int32)) 1 (1 : Int32)) 0 (0 : Int32)) 0))) 1))])) tgt
          refine XS.iconst X26.here hx rfl (hb hby at_172) ?_
          show Steps p.tables e below (T26.setTop (mkF m 173 #[.val (.int fl), .val (.long ka), .second, .val (.long kb), .second, .val (.long kc), .second, .val (.ref sv), .val (.int (0 : Int32)), .val (.int (1 : Int32)), .val (.int (1 : Int32)), .val (.long kc), .second, .val (.int (1 : Int32)), .val (.long kc), .second, .val (.long kb), .second, .val (.int (0 : Int32))] [(.int (1 : Int32)), (.int ((if (own_bf (own_upJ (own_upJ (own_upJ (fun _ => 0) 0 ka) 1 kb) 0 kc) ((own_up (own_up (own_up (fun _ => 0) 0 (0 : Int32)) 1 (1 : Int32)) 0 (0 : Int32)) 1) ((own_up (own_up (own_up (fun _ => 0) 0 (0 : Int32)) 1 (1 : Int32)) 0 (0 : Int32)) 0) 1 0) = 0 then (own_up (own_up (fun _ => 0) 0 ((own_up (own_up (own_up (fun _ => 0) 0 (0 : Int32)) 1 (1 : Int32)) 0 (0 : Int32)) 0)) 1 ((own_up (own_up (own_up (fun _ => 0) 0 (0 : Int32)) 1 (1 : Int32)) 0 (0 : Int32)) 1)) else (own_up (own_up (fun _ => 0) 0 ((own_up (own_up (own_up (fun _ => 0) 0 (0 : Int32)) 1 (1 : Int32)) 0 (0 : Int32)) 1)) 1 ((own_up (own_up (own_up (fun _ => 0) 0 (0 : Int32)) 1 (1 : Int32)) 0 (0 : Int32)) 0))) 1))])) tgt
          refine XS.iload X26.here hx rfl (hb hby at_173) rfl ?_
          show Steps p.tables e below (T26.setTop (mkF m 175 #[.val (.int fl), .val (.long ka), .second, .val (.long kb), .second, .val (.long kc), .second, .val (.ref sv), .val (.int (0 : Int32)), .val (.int (1 : Int32)), .val (.int (1 : Int32)), .val (.long kc), .second, .val (.int (1 : Int32)), .val (.long kc), .second, .val (.long kb), .second, .val (.int (0 : Int32))] [(.int (0 : Int32)), (.int (1 : Int32)), (.int ((if (own_bf (own_upJ (own_upJ (own_upJ (fun _ => 0) 0 ka) 1 kb) 0 kc) ((own_up (own_up (own_up (fun _ => 0) 0 (0 : Int32)) 1 (1 : Int32)) 0 (0 : Int32)) 1) ((own_up (own_up (own_up (fun _ => 0) 0 (0 : Int32)) 1 (1 : Int32)) 0 (0 : Int32)) 0) 1 0) = 0 then (own_up (own_up (fun _ => 0) 0 ((own_up (own_up (own_up (fun _ => 0) 0 (0 : Int32)) 1 (1 : Int32)) 0 (0 : Int32)) 0)) 1 ((own_up (own_up (own_up (fun _ => 0) 0 (0 : Int32)) 1 (1 : Int32)) 0 (0 : Int32)) 1)) else (own_up (own_up (fun _ => 0) 0 ((own_up (own_up (own_up (fun _ => 0) 0 (0 : Int32)) 1 (1 : Int32)) 0 (0 : Int32)) 1)) 1 ((own_up (own_up (own_up (fun _ => 0) 0 (0 : Int32)) 1 (1 : Int32)) 0 (0 : Int32)) 0))) 1))])) tgt
          refine XS.isub X26.here hx rfl (hb hby at_175) rfl ?_
          exact k
        rw [show ((1 : Int32) - (0 : Int32)) = (1 : Int32) from by decide]
        refine own_st (V := T26.setTop (mkF m 184 #[.val (.int fl), .val (.long ka), .second, .val (.long kb), .second, .val (.long kc), .second, .val (.ref sv), .val (.int (0 : Int32)), .val (.int (1 : Int32)), .val (.int (1 : Int32)), .val (.long kc), .second, .val (.int (1 : Int32)), .val (.long kc), .second, .val (.long kb), .second, .val (.int (0 : Int32))] [(.int (1 : Int32))])) (fun tgt k => ?_) ?_
        · show Steps p.tables e below (T26.setTop (mkF m 176 #[.val (.int fl), .val (.long ka), .second, .val (.long kb), .second, .val (.long kc), .second, .val (.ref sv), .val (.int (0 : Int32)), .val (.int (1 : Int32)), .val (.int (1 : Int32)), .val (.long kc), .second, .val (.int (1 : Int32)), .val (.long kc), .second, .val (.long kb), .second, .val (.int (0 : Int32))] [(.int (1 : Int32)), (.int ((if (own_bf (own_upJ (own_upJ (own_upJ (fun _ => 0) 0 ka) 1 kb) 0 kc) ((own_up (own_up (own_up (fun _ => 0) 0 (0 : Int32)) 1 (1 : Int32)) 0 (0 : Int32)) 1) ((own_up (own_up (own_up (fun _ => 0) 0 (0 : Int32)) 1 (1 : Int32)) 0 (0 : Int32)) 0) 1 0) = 0 then (own_up (own_up (fun _ => 0) 0 ((own_up (own_up (own_up (fun _ => 0) 0 (0 : Int32)) 1 (1 : Int32)) 0 (0 : Int32)) 0)) 1 ((own_up (own_up (own_up (fun _ => 0) 0 (0 : Int32)) 1 (1 : Int32)) 0 (0 : Int32)) 1)) else (own_up (own_up (fun _ => 0) 0 ((own_up (own_up (own_up (fun _ => 0) 0 (0 : Int32)) 1 (1 : Int32)) 0 (0 : Int32)) 1)) 1 ((own_up (own_up (own_up (fun _ => 0) 0 (0 : Int32)) 1 (1 : Int32)) 0 (0 : Int32)) 0))) 1))])) tgt
          refine XS.icmpNo X26.here hx rfl (hb hby at_176) rfl (teq (by simp [own_bf, own_b10, own_b01, own_up, own_upJ, hc134])).2 ?_
          show Steps p.tables e below (T26.setTop (mkF m 179 #[.val (.int fl), .val (.long ka), .second, .val (.long kb), .second, .val (.long kc), .second, .val (.ref sv), .val (.int (0 : Int32)), .val (.int (1 : Int32)), .val (.int (1 : Int32)), .val (.long kc), .second, .val (.int (1 : Int32)), .val (.long kc), .second, .val (.long kb), .second, .val (.int (0 : Int32))] [])) tgt
          refine XS.iconst X26.here hx rfl (hb hby at_179) ?_
          show Steps p.tables e below (T26.setTop (mkF m 180 #[.val (.int fl), .val (.long ka), .second, .val (.long kb), .second, .val (.long kc), .second, .val (.ref sv), .val (.int (0 : Int32)), .val (.int (1 : Int32)), .val (.int (1 : Int32)), .val (.long kc), .second, .val (.int (1 : Int32)), .val (.long kc), .second, .val (.long kb), .second, .val (.int (0 : Int32))] [(.int (1 : Int32))])) tgt
          refine XS.goto X26.here hx rfl (pc0 := 180) (pc' := 184) rfl (hb hby at_180) (by decide) (by decide) ?_
          exact k
        refine own_retN X26 hx hlk (t := .boolean) (z' := (1 : Int32)) Bd.returns (by simp) rfl (hb hby at_184) ?_ (by decide) (by decide)
        show Q0 Z fl ka kb kc h0 n0 (some (.int (1 : Int32))) T26.heap _
        rw [K26]
        exact ⟨rfl, N26⟩
  · skip
    rw [show (fl &&& (1 : Int32)) = (1 : Int32) from q]
    refine own_st (V := T2.setTop (mkF m 19 #[.val (.int fl), .val (.long ka), .second, .val (.long kb), .second, .val (.long kc), .second, .val (.ref sv), .val (.int (1 : Int32)), .unset, .unset, .unset, .unset, .unset, .unset, .unset, .unset, .unset, .unset] [(.int ((1 : Int32) - (1 : Int32)))])) (fun tgt k => ?_) ?_
    · show Steps p.tables e below (T2.setTop (mkF m 15 #[.val (.int fl), .val (.long ka), .second, .val (.long kb), .second, .val (.long kc), .second, .val (.ref sv), .val (.int (1 : Int32)), .unset, .unset, .unset, .unset, .unset, .unset, .unset, .unset, .unset, .unset] [])) tgt
      refine XS.iconst X2.here hx rfl (hb hby at_15) ?_
      show Steps p.tables e below (T2.setTop (mkF m 16 #[.val (.int fl), .val (.long ka), .second, .val (.long kb), .second, .val (.long kc), .second, .val (.ref sv), .val (.int (1 : Int32)), .unset, .unset, .unset, .unset, .unset, .unset, .unset, .unset, .unset, .unset] [(.int (1 : Int32))])) tgt
      refine XS.iload X2.here hx rfl (hb hby at_16) rfl ?_
      show Steps p.tables e below (T2.setTop (mkF m 18 #[.val (.int fl), .val (.long ka), .second, .val (.long kb), .second, .val (.long kc), .second, .val (.ref sv), .val (.int (1 : Int32)), .unset, .unset, .unset, .unset, .unset, .unset, .unset, .unset, .unset, .unset] [(.int (1 : Int32)), (.int (1 : Int32))])) tgt
      refine XS.isub X2.here hx rfl (hb hby at_18) rfl ?_
      exact k
    rw [show ((1 : Int32) - (1 : Int32)) = (0 : Int32) from by decide]
    refine own_st (V := T2.setTop (mkF m 24 #[.val (.int fl), .val (.long ka), .second, .val (.long kb), .second, .val (.long kc), .second, .val (.ref sv), .val (.int (1 : Int32)), .val (.int (0 : Int32)), .unset, .unset, .unset, .unset, .unset, .unset, .unset, .unset, .unset] [(.int (fl &&& (2 : Int32)))])) (fun tgt k => ?_) ?_
    · show Steps p.tables e below (T2.setTop (mkF m 19 #[.val (.int fl), .val (.long ka), .second, .val (.long kb), .second, .val (.long kc), .second, .val (.ref sv), .val (.int (1 : Int32)), .unset, .unset, .unset, .unset, .unset, .unset, .unset, .unset, .unset, .unset] [(.int (0 : Int32))])) tgt
      refine XS.istore X2.here hx rfl (hb hby at_19) rfl (l' := #[.val (.int fl), .val (.long ka), .second, .val (.long kb), .second, .val (.long kc), .second, .val (.ref sv), .val (.int (1 : Int32)), .val (.int (0 : Int32)), .unset, .unset, .unset, .unset, .unset, .unset, .unset, .unset, .unset]) rfl ?_
      show Steps p.tables e below (T2.setTop (mkF m 21 #[.val (.int fl), .val (.long ka), .second, .val (.long kb), .second, .val (.long kc), .second, .val (.ref sv), .val (.int (1 : Int32)), .val (.int (0 : Int32)), .unset, .unset, .unset, .unset, .unset, .unset, .unset, .unset, .unset] [])) tgt
      refine XS.iloadN X2.here hx rfl (hb hby at_21) rfl ?_
      show Steps p.tables e below (T2.setTop (mkF m 22 #[.val (.int fl), .val (.long ka), .second, .val (.long kb), .second, .val (.long kc), .second, .val (.ref sv), .val (.int (1 : Int32)), .val (.int (0 : Int32)), .unset, .unset, .unset, .unset, .unset, .unset, .unset, .unset, .unset] [(.int fl)])) tgt
      refine XS.iconst X2.here hx rfl (hb hby at_22) ?_
      show Steps p.tables e below (T2.setTop (mkF m 23 #[.val (.int fl), .val (.long ka), .second, .val (.long kb), .second, .val (.long kc), .second, .val (.ref sv), .val (.int (1 : Int32)), .val (.int (0 : Int32)), .unset, .unset, .unset, .unset, .unset, .unset, .unset, .unset, .unset] [(.int (2 : Int32)), (.int fl)])) tgt
      refine XS.iand X2.here hx rfl (hb hby at_23) rfl ?_
      exact k
    by_cases hc24 : (fl &&& (2 : Int32)) = (0 : Int32)
    · skip
      refine own_st (V := T2.setTop (mkF m 40 #[.val (.int fl), .val (.long ka), .second, .val (.long kb), .second, .val (.long kc), .second, .val (.ref sv), .val (.int (1 : Int32)), .val (.int (0 : Int32)), .val (.int (0 : Int32)), .unset, .unset, .unset, .unset, .unset, .unset, .unset, .unset] [(.long ka), (.int (1 : Int32)), (.int (0 : Int32)), (.ref sv)])) (fun tgt k => ?_) ?_
      · show Steps p.tables e below (T2.setTop (mkF m 24 #[.val (.int fl), .val (.long ka), .second, .val (.long kb), .second, .val (.long kc), .second, .val (.ref sv), .val (.int (1 : Int32)), .val (.int (0 : Int32)), .unset, .unset, .unset, .unset, .unset, .unset, .unset, .unset, .unset] [(.int (fl &&& (2 : Int32)))])) tgt
        refine XS.ifYes X2.here hx rfl (pc0 := 24) (pc' := 31) rfl (hb hby at_24) rfl ((if0 _ _).trans (teq hc24).1) (by decide) (by decide) ?_
        show Steps p.tables e below (T2.setTop (mkF m 31 #[.val (.int fl), .val (.long ka), .second, .val (.long kb), .second, .val (.long kc), .second, .val (.ref sv), .val (.int (1 : Int32)), .val (.int (0 : Int32)), .unset, .unset, .unset, .unset, .unset, .unset, .unset, .unset, .unset] [])) tgt
        refine XS.iconst X2.here hx rfl (hb hby at_31) ?_
        show Steps p.tables e below (T2.setTop (mkF m 32 #[.val (.int fl), .val (.long ka), .second, .val (.long kb), .second, .val (.long kc), .second, .val (.ref sv), .val (.int (1 : Int32)), .val (.int (0 : Int32)), .unset, .unset, .unset, .unset, .unset, .unset, .unset, .unset, .unset] [(.int (0 : Int32))])) tgt
        refine XS.istore X2.here hx rfl (hb hby at_32) rfl (l' := #[.val (.int fl), .val (.long ka), .second, .val (.long kb), .second, .val (.long kc), .second, .val (.ref sv), .val (.int (1 : Int32)), .val (.int (0 : Int32)), .val (.int (0 : Int32)), .unset, .unset, .unset, .unset, .unset, .unset, .unset, .unset]) rfl ?_
        show Steps p.tables e below (T2.setTop (mkF m 34 #[.val (.int fl), .val (.long ka), .second, .val (.long kb), .second, .val (.long kc), .second, .val (.ref sv), .val (.int (1 : Int32)), .val (.int (0 : Int32)), .val (.int (0 : Int32)), .unset, .unset, .unset, .unset, .unset, .unset, .unset, .unset] [])) tgt
        refine XS.aload X2.here hx rfl (hb hby at_34) rfl rfl ?_
        show Steps p.tables e below (T2.setTop (mkF m 36 #[.val (.int fl), .val (.long ka), .second, .val (.long kb), .second, .val (.long kc), .second, .val (.ref sv), .val (.int (1 : Int32)), .val (.int (0 : Int32)), .val (.int (0 : Int32)), .unset, .unset, .unset, .unset, .unset, .unset, .unset, .unset] [(.ref sv)])) tgt
        refine XS.iconst X2.here hx rfl (hb hby at_36) ?_
        show Steps p.tables e below (T2.setTop (mkF m 37 #[.val (.int fl), .val (.long ka), .second, .val (.long kb), .second, .val (.long kc), .second, .val (.ref sv), .val (.int (1 : Int32)), .val (.int (0 : Int32)), .val (.int (0 : Int32)), .unset, .unset, .unset, .unset, .unset, .unset, .unset, .unset] [(.int (0 : Int32)), (.ref sv)])) tgt
        refine XS.iload X2.here hx rfl (hb hby at_37) rfl ?_
        show Steps p.tables e below (T2.setTop (mkF m 39 #[.val (.int fl), .val (.long ka), .second, .val (.long kb), .second, .val (.long kc), .second, .val (.ref sv), .val (.int (1 : Int32)), .val (.int (0 : Int32)), .val (.int (0 : Int32)), .unset, .unset, .unset, .unset, .unset, .unset, .unset, .unset] [(.int (1 : Int32)), (.int (0 : Int32)), (.ref sv)])) tgt
        refine XS.lloadN X2.here hx rfl (hb hby at_39) rfl ?_
        exact k
      obtain ⟨cq28, kq28, q28a, q28b, q28c⟩ := isOf hZ rfl g2_9
      obtain ⟨v28, _, ⟨T28, L28, k28, n28⟩, -, Xc28, ⟨Lc28, hQ28, l28, y28, z28⟩, st28⟩ := X2.virtualBack hx (y := (⟨"com/example/chainwright/chainwright/KeySort", "put", "(IIJ)V"⟩ : MethodName)) (z := (⟨"com/example/chainwright/chainwright/KeySort", "put", "(IIJ)V"⟩ : MethodName)) hown (mvT hZ (hw _ (List.mem_of_getElem? (i := 17) rfl))) (mvT hZ (hw _ (List.mem_of_getElem? (i := 18) rfl))) (notFace_of_selects (args := #[]) (mvT hZ (hw _ (List.mem_of_getElem? (i := 20) rfl)))) (mvT hZ (hw _ (List.mem_of_getElem? (i := 20) rfl))) (mvT hZ (hw _ (List.mem_of_getElem? (i := 19) rfl))) (by decide) (backOf (W := 0) (rm3 l Z a0 hw [] sv (0 : Int32) (1 : Int32) ka nu_2 ke_2 (fun _ => 0) (fun _ => 0) 0 1 T2.heap n0 Zs2 g2_10 g2_11 g2_13 g2_14 g2_3 g2_4 g2_6 ne_sv_nu_2 ne_sv_ke_2 (by decide) (by decide) (by decide) (by decide)) hZ (hw _ (List.mem_of_getElem? (i := 21) rfl)) (hw _ (List.mem_of_getElem? (i := 2) rfl)) (by decide) (by decide)) q28a q28c (g := (mkF m 40 #[.val (.int fl), .val (.long ka), .second, .val (.long kb), .second, .val (.long kc), .second, .val (.ref sv), .val (.int (1 : Int32)), .val (.int (0 : Int32)), .val (.int (0 : Int32)), .unset, .unset, .unset, .unset, .unset, .unset, .unset, .unset] [(.long ka), (.int (1 : Int32)), (.int (0 : Int32)), (.ref sv)])) rfl (by rw [hml]; rfl) (Steps.refl _) (argsL := [(.int (0 : Int32)), (.int (1 : Int32)), (.long ka)]) (rest := []) (lenOf pd_0_1 rfl) rfl (by show 2 * 0 + _ ≤ _; exact Nat.le_of_eq rfl) (hb hby at_40) (fun _ _ => ⟨rfl, rfl, (by decide : 4 + 0 ≤ _), (by decide : 9 + 0 ≤ _)⟩)
      dsimp only [Pt.U, Pt.locs, Pt.cells, Pt.slots] at Xc28 l28 y28 z28 st28 hQ28
      have X28 := own_cast Xc28 l28 y28 z28
      obtain ⟨ev28, N28q, K28, g28_0, g28_1⟩ := hQ28
      rw [ev28] at st28
      have N28 := Fr.app N2 N28q
      have E_sv_28 := g2_9.keep K28
      have F_sv_numbers_28 := g2_10.keep K28 (ninS ne_sv_nu_2 (ninS ne_sv_ke_2 nin0))
      have F_sv_keys_28 := g2_11.keep K28 (ninS ne_sv_nu_2 (ninS ne_sv_ke_2 nin0))
      have F_sv_room_28 := g2_12.keep K28 (ninS ne_sv_nu_2 (ninS ne_sv_ke_2 nin0))
      have A_ro_2_28 := g2_15.keep K28 (ninS (Ne.symm g2_7) (ninS (Ne.symm g2_8) nin0))
      have Zs28 : n0 ≤ T28.heap.size := Nat.le_trans Zs2 K28.1
      refine own_st (fun tgt k => st28.trans k) ?_
      show own_Go p e below _ (T28.setTop (mkF m 43 #[.val (.int fl), .val (.long ka), .second, .val (.long kb), .second, .val (.long kc), .second, .val (.ref sv), .val (.int (1 : Int32)), .val (.int (0 : Int32)), .val (.int (0 : Int32)), .unset, .unset, .unset, .unset, .unset, .unset, .unset, .unset] []))
      refine own_st (V := T28.setTop (mkF m 49 #[.val (.int fl), .val (.long ka), .second, .val (.long kb), .second, .val (.long kc), .second, .val (.ref sv), .val (.int (1 : Int32)), .val (.int (0 : Int32)), .val (.int (0 : Int32)), .unset, .unset, .unset, .unset, .unset, .unset, .unset, .unset] [(.long kb), (.int (0 : Int32)), (.int (1 : Int32)), (.ref sv)])) (fun tgt k => ?_) ?_
      · show Steps p.tables e below (T28.setTop (mkF m 43 #[.val (.int fl), .val (.long ka), .second, .val (.long kb), .second, .val (.long kc), .second, .val (.ref sv), .val (.int (1 : Int32)), .val (.int (0 : Int32)), .val (.int (0 : Int32)), .unset, .unset, .unset, .unset, .unset, .unset, .unset, .unset] [])) tgt
        refine XS.aload X28.here hx rfl (hb hby at_43) rfl rfl ?_
        show Steps p.tables e below (T28.setTop (mkF m 45 #[.val (.int fl), .val (.long ka), .second, .val (.long kb), .second, .val (.long kc), .second, .val (.ref sv), .val (.int (1 : Int32)), .val (.int (0 : Int32)), .val (.int (0 : Int32)), .unset, .unset, .unset, .unset, .unset, .unset, .unset, .unset] [(.ref sv)])) tgt
        refine XS.iconst X28.here hx rfl (hb hby at_45) ?_
        show Steps p.tables e below (T28.setTop (mkF m 46 #[.val (.int fl), .val (.long ka), .second, .val (.long kb), .second, .val (.long kc), .second, .val (.ref sv), .val (.int (1 : Int32)), .val (.int (0 : Int32)), .val (.int (0 : Int32)), .unset, .unset, .unset, .unset, .unset, .unset, .unset, .unset] [(.int (1 : Int32)), (.ref sv)])) tgt
        refine XS.iload X28.here hx rfl (hb hby at_46) rfl ?_
        show Steps p.tables e below (T28.setTop (mkF m 48 #[.val (.int fl), .val (.long ka), .second, .val (.long kb), .second, .val (.long kc), .second, .val (.ref sv), .val (.int (1 : Int32)), .val (.int (0 : Int32)), .val (.int (0 : Int32)), .unset, .unset, .unset, .unset, .unset, .unset, .unset, .unset] [(.int (0 : Int32)), (.int (1 : Int32)), (.ref sv)])) tgt
        refine XS.lloadN X28.here hx rfl (hb hby at_48) rfl ?_
        exact k
      obtain ⟨cq29, kq29, q29a, q29b, q29c⟩ := isOf hZ rfl E_sv_28
      obtain ⟨v29, _, ⟨T29, L29, k29, n29⟩, -, Xc29, ⟨Lc29, hQ29, l29, y29, z29⟩, st29⟩ := X28.virtualBack hx (y := (⟨"com/example/chainwright/chainwright/KeySort", "put", "(IIJ)V"⟩ : MethodName)) (z := (⟨"com/example/chainwright/chainwright/KeySort", "put", "(IIJ)V"⟩ : MethodName)) hown (mvT hZ (hw _ (List.mem_of_getElem? (i := 17) rfl))) (mvT hZ (hw _ (List.mem_of_getElem? (i := 18) rfl))) (notFace_of_selects (args := #[]) (mvT hZ (hw _ (List.mem_of_getElem? (i := 20) rfl)))) (mvT hZ (hw _ (List.mem_of_getElem? (i := 20) rfl))) (mvT hZ (hw _ (List.mem_of_getElem? (i := 19) rfl))) (by decide) (backOf (W := 0) (rm3 l Z a0 hw [] sv (1 : Int32) (0 : Int32) kb nu_2 ke_2 (own_up (fun _ => 0) 0 (1 : Int32)) (own_upJ (fun _ => 0) 1 ka) 1 0 T28.heap n0 Zs28 F_sv_numbers_28 F_sv_keys_28 g28_0 g28_1 g2_3 g2_4 g2_6 ne_sv_nu_2 ne_sv_ke_2 (by decide) (by decide) (by decide) (by decide)) hZ (hw _ (List.mem_of_getElem? (i := 21) rfl)) (hw _ (List.mem_of_getElem? (i := 2) rfl)) (by decide) (by decide)) q29a q29c (g := (mkF m 49 #[.val (.int fl), .val (.long ka), .second, .val (.long kb), .second, .val (.long kc), .second, .val (.ref sv), .val (.int (1 : Int32)), .val (.int (0 : Int32)), .val (.int (0 : Int32)), .unset, .unset, .unset, .unset, .unset, .unset, .unset, .unset] [(.long kb), (.int (0 : Int32)), (.int (1 : Int32)), (.ref sv)])) rfl (by rw [hml]; rfl) (Steps.refl _) (argsL := [(.int (1 : Int32)), (.int (0 : Int32)), (.long kb)]) (rest := []) (lenOf pd_0_1 rfl) rfl (by show 2 * 0 + _ ≤ _; exact Nat.le_of_eq rfl) (hb hby at_49) (fun _ _ => ⟨rfl, rfl, (by decide : 4 + 0 ≤ _), (by decide : 9 + 0 ≤ _)⟩)
      dsimp only [Pt.U, Pt.locs, Pt.cells, Pt.slots] at Xc29 l29 y29 z29 st29 hQ29
      have X29 := own_cast Xc29 l29 y29 z29
      obtain ⟨ev29, N29q, K29, g29_0, g29_1⟩ := hQ29
      rw [ev29] at st29
      have N29 := Fr.app N28 N29q
      have E_sv_29 := E_sv_28.keep K29
      have F_sv_numbers_29 := F_sv_numbers_28.keep K29 (ninS ne_sv_nu_2 (ninS ne_sv_ke_2 nin0))
      have F_sv_keys_29 := F_sv_keys_28.keep K29 (ninS ne_sv_nu_2 (ninS ne_sv_ke_2 nin0))
      have F_sv_room_29 := F_sv_room_28.keep K29 (ninS ne_sv_nu_2 (ninS ne_sv_ke_2 nin0))
      have A_ro_2_29 := A_ro_2_28.keep K29 (ninS (Ne.symm g2_7) (ninS (Ne.symm g2_8) nin0))
      have Zs29 : n0 ≤ T29.heap.size := Nat.le_trans Zs28 K29.1
      refine own_st (fun tgt k => st29.trans k) ?_
      show own_Go p e below _ (T29.setTop (mkF m 52 #[.val (.int fl), .val (.long ka), .second, .val (.long kb), .second, .val (.long kc), .second, .val (.ref sv), .val (.int (1 : Int32)), .val (.int (0 : Int32)), .val (.int (0 : Int32)), .unset, .unset, .unset, .unset, .unset, .unset, .unset, .unset] []))
      refine own_st (V := T29.setTop (mkF m 77 #[.val (.int fl), .val (.long ka), .second, .val (.long kb), .second, .val (.long kc), .second, .val (.ref sv), .val (.int (1 : Int32)), .val (.int (0 : Int32)), .val (.int (0 : Int32)), .val (.long ka), .second, .unset, .unset, .unset, .unset, .unset, .unset] [(.int (0 : Int32)), (.ref sv)])) (fun tgt k => ?_) ?_
      · show Steps p.tables e below (T29.setTop (mkF m 52 #[.val (.int fl), .val (.long ka), .second, .val (.long kb), .second, .val (.long kc), .second, .val (.ref sv), .val (.int (1 : Int32)), .val (.int (0 : Int32)), .val (.int (0 : Int32)), .unset, .unset, .unset, .unset, .unset, .unset, .unset, .unset] [])) tgt
        refine XS.lloadN X29.here hx rfl (hb hby at_52) rfl ?_
        show Steps p.tables e below (T29.setTop (mkF m 53 #[.val (.int fl), .val (.long ka), .second, .val (.long kb), .second, .val (.long kc), .second, .val (.ref sv), .val (.int (1 : Int32)), .val (.int (0 : Int32)), .val (.int (0 : Int32)), .unset, .unset, .unset, .unset, .unset, .unset, .unset, .unset] [(.long ka)])) tgt
        refine XS.lstore X29.here hx rfl (hb hby at_53) rfl (l' := #[.val (.int fl), .val (.long ka), .second, .val (.long kb), .second, .val (.long kc), .second, .val (.ref sv), .val (.int (1 : Int32)), .val (.int (0 : Int32)), .val (.int (0 : Int32)), .val (.long ka), .second, .unset, .unset, .unset, .unset, .unset, .unset]) rfl ?_
        show Steps p.tables e below (T29.setTop (mkF m 55 #[.val (.int fl), .val (.long ka), .second, .val (.long kb), .second, .val (.long kc), .second, .val (.ref sv), .val (.int (1 : Int32)), .val (.int (0 : Int32)), .val (.int (0 : Int32)), .val (.long ka), .second, .unset, .unset, .unset, .unset, .unset, .unset] [])) tgt
        refine XS.iload X29.here hx rfl (hb hby at_55) rfl ?_
        show Steps p.tables e below (T29.setTop (mkF m 57 #[.val (.int fl), .val (.long ka), .second, .val (.long kb), .second, .val (.long kc), .second, .val (.ref sv), .val (.int (1 : Int32)), .val (.int (0 : Int32)), .val (.int (0 : Int32)), .val (.long ka), .second, .unset, .unset, .unset, .unset, .unset, .unset] [(.int (0 : Int32))])) tgt
        refine XS.ifYes X29.here hx rfl (pc0 := 57) (pc' := 74) rfl (hb hby at_57) rfl ((if0 _ _).trans (teq (by decide : (0 : Int32) = (0 : Int32))).1) (by decide) (by decide) ?_
        show Steps p.tables e below (T29.setTop (mkF m 74 #[.val (.int fl), .val (.long ka), .second, .val (.long kb), .second, .val (.long kc), .second, .val (.ref sv), .val (.int (1 : Int32)), .val (.int (0 : Int32)), .val (.int (0 : Int32)), .val (.long ka), .second, .unset, .unset, .unset, .unset, .unset, .unset] [])) tgt
        refine XS.aload X29.here hx rfl (hb hby at_74) rfl rfl ?_
        show Steps p.tables e below (T29.setTop (mkF m 76 #[.val (.int fl), .val (.long ka), .second, .val (.long kb), .second, .val (.long kc), .second, .val (.ref sv), .val (.int (1 : Int32)), .val (.int (0 : Int32)), .val (.int (0 : Int32)), .val (.long ka), .second, .unset, .unset, .unset, .unset, .unset, .unset] [(.ref sv)])) tgt
        refine XS.iconst X29.here hx rfl (hb hby at_76) ?_
        exact k
      obtain ⟨cq30, kq30, q30a, q30b, q30c⟩ := isOf hZ rfl E_sv_29
      obtain ⟨v30, _, ⟨T30, L30, k30, n30⟩, -, Xc30, ⟨Lc30, hQ30, l30, y30, z30⟩, st30⟩ := X29.virtualBack hx (y := (⟨"com/example/chainwright/chainwright/KeySort", "number", "(I)I"⟩ : MethodName)) (z := (⟨"com/example/chainwright/chainwright/KeySort", "number", "(I)I"⟩ : MethodName)) hown (mvT hZ (hw _ (List.mem_of_getElem? (i := 22) rfl))) (mvT hZ (hw _ (List.mem_of_getElem? (i := 23) rfl))) (notFace_of_selects (args := #[]) (mvT hZ (hw _ (List.mem_of_getElem? (i := 25) rfl)))) (mvT hZ (hw _ (List.mem_of_getElem? (i := 25) rfl))) (mvT hZ (hw _ (List.mem_of_getElem? (i := 24) rfl))) (by decide) (backOf (W := 0) (rm4 l Z a0 hw [] sv (0 : Int32) nu_2 (own_up (own_up (fun _ => 0) 0 (1 : Int32)) 1 (0 : Int32)) 0 T29.heap n0 Zs29 F_sv_numbers_29 g29_0 (by decide) (by decide)) hZ (hw _ (List.mem_of_getElem? (i := 26) rfl)) (hw _ (List.mem_of_getElem? (i := 2) rfl)) (by decide) (by decide)) q30a q30c (g := (mkF m 77 #[.val (.int fl), .val (.long ka), .second, .val (.long kb), .second, .val (.long kc), .second, .val (.ref sv), .val (.int (1 : Int32)), .val (.int (0 : Int32)), .val (.int (0 : Int32)), .val (.long ka), .second, .unset, .unset, .unset, .unset, .unset, .unset] [(.int (0 : Int32)), (.ref sv)])) rfl (by rw [hml]; rfl) (Steps.refl _) (argsL := [(.int (0 : Int32))]) (rest := []) (lenOf pd_0_2 rfl) rfl (by show 2 * 0 + _ ≤ _; exact Nat.le_of_eq rfl) (hb hby at_77) (fun _ _ => ⟨rfl, rfl, (by decide : 4 + 0 ≤ _), (by decide : 9 + 0 ≤ _)⟩)
      dsimp only [Pt.U, Pt.locs, Pt.cells, Pt.slots] at Xc30 l30 y30 z30 st30 hQ30
      have X30 := own_cast Xc30 l30 y30 z30
      obtain ⟨ev30, N30q, K30⟩ := hQ30
      rw [ev30] at st30
      have N30 := Fr.app N29 N30q
      refine own_st (fun tgt k => st30.trans k) ?_
      show own_Go p e below _ (T30.setTop (mkF m 80 #[.val (.int fl), .val (.long ka), .second, .val (.long kb), .second, .val (.long kc), .second, .val (.ref sv), .val (.int (1 : Int32)), .val (.int (0 : Int32)), .val (.int (0 : Int32)), .val (.long ka), .second, .unset, .unset, .unset, .unset, .unset, .unset] [(.int ((own_up (own_up (fun _ => 0) 0 (1 : Int32)) 1 (0 : Int32)) 0))]))
      refine own_st (V := T30.setTop (mkF m 88 #[.val (.int fl), .val (.long ka), .second, .val (.long kb), .second, .val (.long kc), .second, .val (.ref sv), .val (.int (1 : Int32)), .val (.int (0 : Int32)), .val (.int (0 : Int32)), .val (.long ka), .second, .unset, .unset, .unset, .unset, .unset, .unset] [(.int (1 : Int32)), (.ref sv)])) (fun tgt k => ?_) ?_
      · show Steps p.tables e below (T30.setTop (mkF m 80 #[.val (.int fl), .val (.long ka), .second, .val (.long kb), .second, .val (.long kc), .second, .val (.ref sv), .val (.int (1 : Int32)), .val (.int (0 : Int32)), .val (.int (0 : Int32)), .val (.long ka), .second, .unset, .unset, .unset, .unset, .unset, .unset] [(.int ((own_up (own_up (fun _ => 0) 0 (1 : Int32)) 1 (0 : Int32)) 0))])) tgt
        refine XS.iload X30.here hx rfl (hb hby at_80) rfl ?_
        show Steps p.tables e below (T30.setTop (mkF m 82 #[.val (.int fl), .val (.long ka), .second, .val (.long kb), .second, .val (.long kc), .second, .val (.ref sv), .val (.int (1 : Int32)), .val (.int (0 : Int32)), .val (.int (0 : Int32)), .val (.long ka), .second, .unset, .unset, .unset, .unset, .unset, .unset] [(.int (1 : Int32)), (.int ((own_up (own_up (fun _ => 0) 0 (1 : Int32)) 1 (0 : Int32)) 0))])) tgt
        refine XS.icmpNo X30.here hx rfl (hb hby at_82) rfl (teq (by decide)).2 ?_
        show Steps p.tables e below (T30.setTop (mkF m 85 #[.val (.int fl), .val (.long ka), .second, .val (.long kb), .second, .val (.long kc), .second, .val (.ref sv), .val (.int (1 : Int32)), .val (.int (0 : Int32)), .val (.int (0 : Int32)), .val (.long ka), .second, .unset, .unset, .unset, .unset, .unset, .unset] [])) tgt
        refine XS.aload X30.here hx rfl (hb hby at_85) rfl rfl ?_
        show Steps p.tables e below (T30.setTop (mkF m 87 #[.val (.int fl), .val (.long ka), .second, .val (.long kb), .second, .val (.long kc), .second, .val (.ref sv), .val (.int (1 : Int32)), .val (.int (0 : Int32)), .val (.int (0 : Int32)), .val (.long ka), .second, .unset, .unset, .unset, .unset, .unset, .unset] [(.ref sv)])) tgt
        refine XS.iconst X30.here hx rfl (hb hby at_87) ?_
        exact k
      obtain ⟨cq31, kq31, q31a, q31b, q31c⟩ := isOf hZ K30 E_sv_29
      obtain ⟨v31, _, ⟨T31, L31, k31, n31⟩, -, Xc31, ⟨Lc31, hQ31, l31, y31, z31⟩, st31⟩ := X30.virtualBack hx (y := (⟨"com/example/chainwright/chainwright/KeySort", "number", "(I)I"⟩ : MethodName)) (z := (⟨"com/example/chainwright/chainwright/KeySort", "number", "(I)I"⟩ : MethodName)) hown (mvT hZ (hw _ (List.mem_of_getElem? (i := 22) rfl))) (mvT hZ (hw _ (List.mem_of_getElem? (i := 23) rfl))) (notFace_of_selects (args := #[]) (mvT hZ (hw _ (List.mem_of_getElem? (i := 25) rfl)))) (mvT hZ (hw _ (List.mem_of_getElem? (i := 25) rfl))) (mvT hZ (hw _ (List.mem_of_getElem? (i := 24) rfl))) (by decide) (backOf (W := 0) (rm4 l Z a0 hw [] sv (1 : Int32) nu_2 (own_up (own_up (fun _ => 0) 0 (1 : Int32)) 1 (0 : Int32)) 1 T29.heap n0 Zs29 F_sv_numbers_29 g29_0 (by decide) (by decide)) hZ (hw _ (List.mem_of_getElem? (i := 26) rfl)) (hw _ (List.mem_of_getElem? (i := 2) rfl)) (by decide) (by decide)) q31a q31c (g := (mkF m 88 #[.val (.int fl), .val (.long ka), .second, .val (.long kb), .second, .val (.long kc), .second, .val (.ref sv), .val (.int (1 : Int32)), .val (.int (0 : Int32)), .val (.int (0 : Int32)), .val (.long ka), .second, .unset, .unset, .unset, .unset, .unset, .unset] [(.int (1 : Int32)), (.ref sv)])) rfl (by rw [hml]; rfl) (Steps.refl _) (argsL := [(.int (1 : Int32))]) (rest := []) (lenOf pd_0_2 rfl) rfl (by show 2 * 0 + _ ≤ _; exact Nat.le_of_eq rfl) (hb hby at_88) (fun _ _ => ⟨rfl, K30, (by decide : 4 + 0 ≤ _), (by decide : 9 + 0 ≤ _)⟩)
      dsimp only [Pt.U, Pt.locs, Pt.cells, Pt.slots] at Xc31 l31 y31 z31 st31 hQ31
      have X31 := own_cast Xc31 l31 y31 z31
      obtain ⟨ev31, N31q, K31⟩ := hQ31
      rw [ev31] at st31
      have N31 := Fr.app N30 N31q
      refine own_st (fun tgt k => st31.trans k) ?_
      show own_Go p e below _ (T31.setTop (mkF m 91 #[.val (.int fl), .val (.long ka), .second, .val (.long kb), .second, .val (.long kc), .second, .val (.ref sv), .val (.int (1 : Int32)), .val (.int (0 : Int32)), .val (.int (0 : Int32)), .val (.long ka), .second, .unset, .unset, .unset, .unset, .unset, .unset] [(.int ((own_up (own_up (fun _ => 0) 0 (1 : Int32)) 1 (0 : Int32)) 1))]))
      refine own_st (V := T31.setTop (mkF m 134 #[.val (.int fl), .val (.long ka), .second, .val (.long kb), .second, .val (.long kc), .second, .val (.ref sv), .val (.int (1 : Int32)), .val (.int (0 : Int32)), .val (.int (0 : Int32)), .val (.long ka), .second, .val (.int (1 : Int32)), .val (.long kb), .second, .val (.long ka), .second, .unset] [(.int (lcmpW ka kb))])) (fun tgt k => ?_) ?_
      · show Steps p.tables e below (T31.setTop (mkF m 91 #[.val (.int fl), .val (.long ka), .second, .val (.long kb), .second, .val (.long kc), .second, .val (.ref sv), .val (.int (1 : Int32)), .val (.int (0 : Int32)), .val (.int (0 : Int32)), .val (.long ka), .second, .unset, .unset, .unset, .unset, .unset, .unset] [(.int ((own_up (own_up (fun _ => 0) 0 (1 : Int32)) 1 (0 : Int32)) 1))])) tgt
        refine XS.iload X31.here hx rfl (hb hby at_91) rfl ?_
        show Steps p.tables e below (T31.setTop (mkF m 93 #[.val (.int fl), .val (.long ka), .second, .val (.long kb), .second, .val (.long kc), .second, .val (.ref sv), .val (.int (1 : Int32)), .val (.int (0 : Int32)), .val (.int (0 : Int32)), .val (.long ka), .second, .unset, .unset, .unset, .unset, .unset, .unset] [(.int (0 : Int32)), (.int ((own_up (own_up (fun _ => 0) 0 (1 : Int32)) 1 (0 : Int32)) 1))])) tgt
        refine XS.icmpNo X31.here hx rfl (hb hby at_93) rfl (teq (by decide)).2 ?_
        show Steps p.tables e below (T31.setTop (mkF m 96 #[.val (.int fl), .val (.long ka), .second, .val (.long kb), .second, .val (.long kc), .second, .val (.ref sv), .val (.int (1 : Int32)), .val (.int (0 : Int32)), .val (.int (0 : Int32)), .val (.long ka), .second, .unset, .unset, .unset, .unset, .unset, .unset] [])) tgt
        refine XS.iconst X31.here hx rfl (hb hby at_96) ?_
        show Steps p.tables e below (T31.setTop (mkF m 97 #[.val (.int fl), .val (.long ka), .second, .val (.long kb), .second, .val (.long kc), .second, .val (.ref sv), .val (.int (1 : Int32)), .val (.int (0 : Int32)), .val (.int (0 : Int32)), .val (.long ka), .second, .unset, .unset, .unset, .unset, .unset, .unset] [(.int (1 : Int32))])) tgt
        refine XS.goto X31.here hx rfl (pc0 := 97) (pc' := 101) rfl (hb hby at_97) (by decide) (by decide) ?_
        show Steps p.tables e below (T31.setTop (mkF m 101 #[.val (.int fl), .val (.long ka), .second, .val (.long kb), .second, .val (.long kc), .second, .val (.ref sv), .val (.int (1 : Int32)), .val (.int (0 : Int32)), .val (.int (0 : Int32)), .val (.long ka), .second, .unset, .unset, .unset, .unset, .unset, .unset] [(.int (1 : Int32))])) tgt
        refine XS.istore X31.here hx rfl (hb hby at_101) rfl (l' := #[.val (.int fl), .val (.long ka), .second, .val (.long kb), .second, .val (.long kc), .second, .val (.ref sv), .val (.int (1 : Int32)), .val (.int (0 : Int32)), .val (.int (0 : Int32)), .val (.long ka), .second, .val (.int (1 : Int32)), .unset, .unset, .unset, .unset, .unset]) rfl ?_
        show Steps p.tables e below (T31.setTop (mkF m 103 #[.val (.int fl), .val (.long ka), .second, .val (.long kb), .second, .val (.long kc), .second, .val (.ref sv), .val (.int (1 : Int32)), .val (.int (0 : Int32)), .val (.int (0 : Int32)), .val (.long ka), .second, .val (.int (1 : Int32)), .unset, .unset, .unset, .unset, .unset] [])) tgt
        refine XS.iload X31.here hx rfl (hb hby at_103) rfl ?_
        show Steps p.tables e below (T31.setTop (mkF m 105 #[.val (.int fl), .val (.long ka), .second, .val (.long kb), .second, .val (.long kc), .second, .val (.ref sv), .val (.int (1 : Int32)), .val (.int (0 : Int32)), .val (.int (0 : Int32)), .val (.long ka), .second, .val (.int (1 : Int32)), .unset, .unset, .unset, .unset, .unset] [(.int (1 : Int32))])) tgt
        refine XS.ifYes X31.here hx rfl (pc0 := 105) (pc' := 113) rfl (hb hby at_105) rfl ((if0 _ _).trans (feq (by decide : ¬ ((1 : Int32) = (0 : Int32)))).2) (by decide) (by decide) ?_
        show Steps p.tables e below (T31.setTop (mkF m 113 #[.val (.int fl), .val (.long ka), .second, .val (.long kb), .second, .val (.long kc), .second, .val (.ref sv), .val (.int (1 : Int32)), .val (.int (0 : Int32)), .val (.int (0 : Int32)), .val (.long ka), .second, .val (.int (1 : Int32)), .unset, .unset, .unset, .unset, .unset] [])) tgt
        refine XS.lloadN X31.here hx rfl (hb hby at_113) rfl ?_
        show Steps p.tables e below (T31.setTop (mkF m 114 #[.val (.int fl), .val (.long ka), .second, .val (.long kb), .second, .val (.long kc), .second, .val (.ref sv), .val (.int (1 : Int32)), .val (.int (0 : Int32)), .val (.int (0 : Int32)), .val (.long ka), .second, .val (.int (1 : Int32)), .unset, .unset, .unset, .unset, .unset] [(.long kb)])) tgt
        refine XS.lstore X31.here hx rfl (hb hby at_114) rfl (l' := #[.val (.int fl), .val (.long ka), .second, .val (.long kb), .second, .val (.long kc), .second, .val (.ref sv), .val (.int (1 : Int32)), .val (.int (0 : Int32)), .val (.int (0 : Int32)), .val (.long ka), .second, .val (.int (1 : Int32)), .val (.long kb), .second, .unset, .unset, .unset]) rfl ?_
        show Steps p.tables e below (T31.setTop (mkF m 116 #[.val (.int fl), .val (.long ka), .second, .val (.long kb), .second, .val (.long kc), .second, .val (.ref sv), .val (.int (1 : Int32)), .val (.int (0 : Int32)), .val (.int (0 : Int32)), .val (.long ka), .second, .val (.int (1 : Int32)), .val (.long kb), .second, .unset, .unset, .unset] [])) tgt
        refine XS.iload X31.here hx rfl (hb hby at_116) rfl ?_
        show Steps p.tables e below (T31.setTop (mkF m 118 #[.val (.int fl), .val (.long ka), .second, .val (.long kb), .second, .val (.long kc), .second, .val (.ref sv), .val (.int (1 : Int32)), .val (.int (0 : Int32)), .val (.int (0 : Int32)), .val (.long ka), .second, .val (.int (1 : Int32)), .val (.long kb), .second, .unset, .unset, .unset] [(.int (1 : Int32))])) tgt
        refine XS.ifYes X31.here hx rfl (pc0 := 118) (pc' := 125) rfl (hb hby at_118) rfl ((if0 _ _).trans (feq (by decide : ¬ ((1 : Int32) = (0 : Int32)))).2) (by decide) (by decide) ?_
        show Steps p.tables e below (T31.setTop (mkF m 125 #[.val (.int fl), .val (.long ka), .second, .val (.long kb), .second, .val (.long kc), .second, .val (.ref sv), .val (.int (1 : Int32)), .val (.int (0 : Int32)), .val (.int (0 : Int32)), .val (.long ka), .second, .val (.int (1 : Int32)), .val (.long kb), .second, .unset, .unset, .unset] [])) tgt
        refine XS.lload X31.here hx rfl (hb hby at_125) rfl ?_
        show Steps p.tables e below (T31.setTop (mkF m 127 #[.val (.int fl), .val (.long ka), .second, .val (.long kb), .second, .val (.long kc), .second, .val (.ref sv), .val (.int (1 : Int32)), .val (.int (0 : Int32)), .val (.int (0 : Int32)), .val (.long ka), .second, .val (.int (1 : Int32)), .val (.long kb), .second, .unset, .unset, .unset] [(.long ka)])) tgt
        refine XS.lstore X31.here hx rfl (hb hby at_127) rfl (l' := #[.val (.int fl), .val (.long ka), .second, .val (.long kb), .second, .val (.long kc), .second, .val (.ref sv), .val (.int (1 : Int32)), .val (.int (0 : Int32)), .val (.int (0 : Int32)), .val (.long ka), .second, .val (.int (1 : Int32)), .val (.long kb), .second, .val (.long ka), .second, .unset]) rfl ?_
        show Steps p.tables e below (T31.setTop (mkF m 129 #[.val (.int fl), .val (.long ka), .second, .val (.long kb), .second, .val (.long kc), .second, .val (.ref sv), .val (.int (1 : Int32)), .val (.int (0 : Int32)), .val (.int (0 : Int32)), .val (.long ka), .second, .val (.int (1 : Int32)), .val (.long kb), .second, .val (.long ka), .second, .unset] [])) tgt
        refine XS.lload X31.here hx rfl (hb hby at_129) rfl ?_
        show Steps p.tables e below (T31.setTop (mkF m 131 #[.val (.int fl), .val (.long ka), .second, .val (.long kb), .second, .val (.long kc), .second, .val (.ref sv), .val (.int (1 : Int32)), .val (.int (0 : Int32)), .val (.int (0 : Int32)), .val (.long ka), .second, .val (.int (1 : Int32)), .val (.long kb), .second, .val (.long ka), .second, .unset] [(.long ka)])) tgt
        refine XS.lload X31.here hx rfl (hb hby at_131) rfl ?_
        show Steps p.tables e below (T31.setTop (mkF m 133 #[.val (.int fl), .val (.long ka), .second, .val (.long kb), .second, .val (.long kc), .second, .val (.ref sv), .val (.int (1 : Int32)), .val (.int (0 : Int32)), .val (.int (0 : Int32)), .val (.long ka), .second, .val (.int (1 : Int32)), .val (.long kb), .second, .val (.long ka), .second, .unset] [(.long kb), (.long ka)])) tgt
        refine XS.lcmp X31.here hx rfl (hb hby at_133) rfl ?_
        exact k
      by_cases hc134 : ka < kb
      · skip
        refine own_st (V := T31.setTop (mkF m 147 #[.val (.int fl), .val (.long ka), .second, .val (.long kb), .second, .val (.long kc), .second, .val (.ref sv), .val (.int (1 : Int32)), .val (.int (0 : Int32)), .val (.int (0 : Int32)), .val (.long ka), .second, .val (.int (1 : Int32)), .val (.long kb), .second, .val (.long ka), .second, .val (.int (1 : Int32))] [(.int (2 : Int32)), (.ref sv)])) (fun tgt k => ?_) ?_
        · show Steps p.tables e below (T31.setTop (mkF m 134 #[.val (.int fl), .val (.long ka), .second, .val (.long kb), .second, .val (.long kc), .second, .val (.ref sv), .val (.int (1 : Int32)), .val (.int (0 : Int32)), .val (.int (0 : Int32)), .val (.long ka), .second, .val (.int (1 : Int32)), .val (.long kb), .second, .val (.long ka), .second, .unset] [(.int (lcmpW ka kb))])) tgt
          refine XS.ifNo X31.here hx rfl (hb hby at_134) rfl ((if0 _ _).trans (tlt ((lw_lt ka kb).mpr hc134)).2.1) ?_
          show Steps p.tables e below (T31.setTop (mkF m 137 #[.val (.int fl), .val (.long ka), .second, .val (.long kb), .second, .val (.long kc), .second, .val (.ref sv), .val (.int (1 : Int32)), .val (.int (0 : Int32)), .val (.int (0 : Int32)), .val (.long ka), .second, .val (.int (1 : Int32)), .val (.long kb), .second, .val (.long ka), .second, .unset] [])) tgt
          refine XS.iconst X31.here hx rfl (hb hby at_137) ?_
          show Steps p.tables e below (T31.setTop (mkF m 138 #[.val (.int fl), .val (.long ka), .second, .val (.long kb), .second, .val (.long kc), .second, .val (.ref sv), .val (.int (1 : Int32)), .val (.int (0 : Int32)), .val (.int (0 : Int32)), .val (.long ka), .second, .val (.int (1 : Int32)), .val (.long kb), .second, .val (.long ka), .second, .unset] [(.int (1 : Int32))])) tgt
          refine XS.goto X31.here hx rfl (pc0 := 138) (pc' := 142) rfl (hb hby at_138) (by decide) (by decide) ?_
          show Steps p.tables e below (T31.setTop (mkF m 142 #[.val (.int fl), .val (.long ka), .second, .val (.long kb), .second, .val (.long kc), .second, .val (.ref sv), .val (.int (1 : Int32)), .val (.int (0 : Int32)), .val (.int (0 : Int32)), .val (.long ka), .second, .val (.int (1 : Int32)), .val (.long kb), .second, .val (.long ka), .second, .unset] [(.int (1 : Int32))])) tgt
          refine XS.istore X31.here hx rfl (hb hby at_142) rfl (l' := #[.val (.int fl), .val (.long ka), .second, .val (.long kb), .second, .val (.long kc), .second, .val (.ref sv), .val (.int (1 : Int32)), .val (.int (0 : Int32)), .val (.int (0 : Int32)), .val (.long ka), .second, .val (.int (1 : Int32)), .val (.long kb), .second, .val (.long ka), .second, .val (.int (1 : Int32))]) rfl ?_
          show Steps p.tables e below (T31.setTop (mkF m 144 #[.val (.int fl), .val (.long ka), .second, .val (.long kb), .second, .val (.long kc), .second, .val (.ref sv), .val (.int (1 : Int32)), .val (.int (0 : Int32)), .val (.int (0 : Int32)), .val (.long ka), .second, .val (.int (1 : Int32)), .val (.long kb), .second, .val (.long ka), .second, .val (.int (1 : Int32))] [])) tgt
          refine XS.aload X31.here hx rfl (hb hby at_144) rfl rfl ?_
          show Steps p.tables e below (T31.setTop (mkF m 146 #[.val (.int fl), .val (.long ka), .second, .val (.long kb), .second, .val (.long kc), .second, .val (.ref sv), .val (.int (1 : Int32)), .val (.int (0 : Int32)), .val (.int (0 : Int32)), .val (.long ka), .second, .val (.int (1 : Int32)), .val (.long kb), .second, .val (.long ka), .second, .val (.int (1 : Int32))] [(.ref sv)])) tgt
          refine XS.iconst X31.here hx rfl (hb hby at_146) ?_
          exact k
        obtain ⟨cq32, kq32, q32a, q32b, q32c⟩ := isOf hZ K31 E_sv_29
        obtain ⟨v32, _, ⟨T32, L32, k32, n32⟩, -, Xc32, ⟨Lc32, hQ32, l32, y32, z32⟩, st32⟩ := X31.virtualBack hx (y := (⟨"com/example/chainwright/chainwright/KeySort", "sort", "(I)V"⟩ : MethodName)) (z := (⟨"com/example/chainwright/chainwright/KeySort", "sort", "(I)V"⟩ : MethodName)) hown (mvT hZ (hw _ (List.mem_of_getElem? (i := 27) rfl))) (mvT hZ (hw _ (List.mem_of_getElem? (i := 28) rfl))) (notFace_of_selects (args := #[]) (mvT hZ (hw _ (List.mem_of_getElem? (i := 30) rfl)))) (mvT hZ (hw _ (List.mem_of_getElem? (i := 30) rfl))) (mvT hZ (hw _ (List.mem_of_getElem? (i := 29) rfl))) (by decide) (backOf (W := 0) (rm5 l Z a0 hw [] sv (2 : Int32) nu_2 ke_2 ro_2 (own_up (own_up (fun _ => 0) 0 (1 : Int32)) 1 (0 : Int32)) (own_upJ (own_upJ (fun _ => 0) 1 ka) 0 kb) (fun _ => 0) 1 0 T29.heap n0 Zs29 E_sv_29 F_sv_numbers_29 F_sv_keys_29 F_sv_room_29 g29_0 g29_1 A_ro_2_29 g2_3 g2_5 g2_6 g2_7 g2_8 ne_sv_nu_2 ne_sv_ro_2 rfl (by decide) (by decide) (by decide) (by decide)) hZ (hw _ (List.mem_of_getElem? (i := 31) rfl)) (hw _ (List.mem_of_getElem? (i := 2) rfl)) (by decide) (by decide)) q32a q32c (g := (mkF m 147 #[.val (.int fl), .val (.long ka), .second, .val (.long kb), .second, .val (.long kc), .second, .val (.ref sv), .val (.int (1 : Int32)), .val (.int (0 : Int32)), .val (.int (0 : Int32)), .val (.long ka), .second, .val (.int (1 : Int32)), .val (.long kb), .second, .val (.long ka), .second, .val (.int (1 : Int32))] [(.int (2 : Int32)), (.ref sv)])) rfl (by rw [hml]; rfl) (Steps.refl _) (argsL := [(.int (2 : Int32))]) (rest := []) (lenOf pd_0_0 rfl) rfl (by show 2 * 0 + _ ≤ _; exact Nat.le_of_eq rfl) (hb hby at_147) (fun _ _ => ⟨rfl, K31, (by decide : 4 + 0 ≤ _), (by decide : 9 + 0 ≤ _)⟩)
        dsimp only [Pt.U, Pt.locs, Pt.cells, Pt.slots] at Xc32 l32 y32 z32 st32 hQ32
        have X32 := own_cast Xc32 l32 y32 z32
        obtain ⟨ev32, N32q, K32, g32_0⟩ := hQ32
        rw [ev32] at st32
        have N32 := Fr.app N31 N32q
        have E_sv_32 := E_sv_29.keep K32
        have F_sv_numbers_32 := F_sv_numbers_29.keep K32 (ninS ne_sv_nu_2 (ninS ne_sv_ro_2 nin0))
        have F_sv_keys_32 := F_sv_keys_29.keep K32 (ninS ne_sv_nu_2 (ninS ne_sv_ro_2 nin0))
        have F_sv_room_32 := F_sv_room_29.keep K32 (ninS ne_sv_nu_2 (ninS ne_sv_ro_2 nin0))
        have A_ke_2_32 := g29_1.keep K32 (ninS (Ne.symm g2_6) (ninS g2_8 nin0))
        have Zs32 : n0 ≤ T32.heap.size := Nat.le_trans Zs29 K32.1
        refine own_st (fun tgt k => st32.trans k) ?_
        show own_Go p e below _ (T32.setTop (mkF m 150 #[.val (.int fl), .val (.long ka), .second, .val (.long kb), .second, .val (.long kc), .second, .val (.ref sv), .val (.int (1 : Int32)), .val (.int (0 : Int32)), .val (.int (0 : Int32)), .val (.long ka), .second, .val (.int (1 : Int32)), .val (.long kb), .second, .val (.long ka), .second, .val (.int (1 : Int32))] []))
        refine own_st (V := T32.setTop (mkF m 158 #[.val (.int fl), .val (.long ka), .second, .val (.long kb), .second, .val (.long kc), .second, .val (.ref sv), .val (.int (1 : Int32)), .val (.int (0 : Int32)), .val (.int (0 : Int32)), .val (.long ka), .second, .val (.int (1 : Int32)), .val (.long kb), .second, .val (.long ka), .second, .val (.int (1 : Int32))] [(.int (0 : Int32)), (.ref sv)])) (fun tgt k => ?_) ?_
        · show Steps p.tables e below (T32.setTop (mkF m 150 #[.val (.int fl), .val (.long ka), .second, .val (.long kb), .second, .val (.long kc), .second, .val (.ref sv), .val (.int (1 : Int32)), .val (.int (0 : Int32)), .val (.int (0 : Int32)), .val (.long ka), .second, .val (.int (1 : Int32)), .val (.long kb), .second, .val (.long ka), .second, .val (.int (1 : Int32))] [])) tgt
          refine XS.iload X32.here hx rfl (hb hby at_150) rfl ?_
          show Steps p.tables e below (T32.setTop (mkF m 152 #[.val (.int fl), .val (.long ka), .second, .val (.long kb), .second, .val (.long kc), .second, .val (.ref sv), .val (.int (1 : Int32)), .val (.int (0 : Int32)), .val (.int (0 : Int32)), .val (.long ka), .second, .val (.int (1 : Int32)), .val (.long kb), .second, .val (.long ka), .second, .val (.int (1 : Int32))] [(.int (1 : Int32))])) tgt
          refine XS.ifNo X32.here hx rfl (hb hby at_152) rfl ((if0 _ _).trans (feq (by decide : ¬ ((1 : Int32) = (0 : Int32)))).1) ?_
          show Steps p.tables e below (T32.setTop (mkF m 155 #[.val (.int fl), .val (.long ka), .second, .val (.long kb), .second, .val (.long kc), .second, .val (.ref sv), .val (.int (1 : Int32)), .val (.int (0 : Int32)), .val (.int (0 : Int32)), .val (.long ka), .second, .val (.int (1 : Int32)), .val (.long kb), .second, .val (.long ka), .second, .val (.int (1 : Int32))] [])) tgt
          refine XS.aload X32.here hx rfl (hb hby at_155) rfl rfl ?_
          show Steps p.tables e below (T32.setTop (mkF m 157 #[.val (.int fl), .val (.long ka), .second, .val (.long kb), .second, .val (.long kc), .second, .val (.ref sv), .val (.int (1 : Int32)), .val (.int (0 : Int32)), .val (.int (0 : Int32)), .val (.long ka), .second, .val (.int (1 : Int32)), .val (.long kb), .second, .val (.long ka), .second, .val (.int (1 : Int32))] [(.ref sv)])) tgt
          refine XS.iconst X32.here hx rfl (hb hby at_157) ?_
          exact k
        obtain ⟨cq33, kq33, q33a, q33b, q33c⟩ := isOf hZ rfl E_sv_32
        obtain ⟨v33, _, ⟨T33, L33, k33, n33⟩, -, Xc33, ⟨Lc33, hQ33, l33, y33, z33⟩, st33⟩ := X32.virtualBack hx (y := (⟨"com/example/chainwright/chainwright/KeySort", "number", "(I)I"⟩ : MethodName)) (z := (⟨"com/example/chainwright/chainwright/KeySort", "number", "(I)I"⟩ : MethodName)) hown (mvT hZ (hw _ (List.mem_of_getElem? (i := 22) rfl))) (mvT hZ (hw _ (List.mem_of_getElem? (i := 23) rfl))) (notFace_of_selects (args := #[]) (mvT hZ (hw _ (List.mem_of_getElem? (i := 25) rfl)))) (mvT hZ (hw _ (List.mem_of_getElem? (i := 25) rfl))) (mvT hZ (hw _ (List.mem_of_getElem? (i := 24) rfl))) (by decide) (backOf (W := 0) (rm4 l Z a0 hw [] sv (0 : Int32) nu_2 (if (own_bf (own_upJ (own_upJ (fun _ => 0) 1 ka) 0 kb) ((own_up (own_up (fun _ => 0) 0 (1 : Int32)) 1 (0 : Int32)) 1) ((own_up (own_up (fun _ => 0) 0 (1 : Int32)) 1 (0 : Int32)) 0) 0 1) = 0 then (own_up (own_up (fun _ => 0) 0 ((own_up (own_up (fun _ => 0) 0 (1 : Int32)) 1 (0 : Int32)) 0)) 1 ((own_up (own_up (fun _ => 0) 0 (1 : Int32)) 1 (0 : Int32)) 1)) else (own_up (own_up (fun _ => 0) 0 ((own_up (own_up (fun _ => 0) 0 (1 : Int32)) 1 (0 : Int32)) 1)) 1 ((own_up (own_up (fun _ => 0) 0 (1 : Int32)) 1 (0 : Int32)) 0))) 0 T32.heap n0 Zs32 F_sv_numbers_32 g32_0 (by decide) (by decide)) hZ (hw _ (List.mem_of_getElem? (i := 26) rfl)) (hw _ (List.mem_of_getElem? (i := 2) rfl)) (by decide) (by decide)) q33a q33c (g := (mkF m 158 #[.val (.int fl), .val (.long ka), .second, .val (.long kb), .second, .val (.long kc), .second, .val (.ref sv), .val (.int (1 : Int32)), .val (.int (0 : Int32)), .val (.int (0 : Int32)), .val (.long ka), .second, .val (.int (1 : Int32)), .val (.long kb), .second, .val (.long ka), .second, .val (.int (1 : Int32))] [(.int (0 : Int32)), (.ref sv)])) rfl (by rw [hml]; rfl) (Steps.refl _) (argsL := [(.int (0 : Int32))]) (rest := []) (lenOf pd_0_2 rfl) rfl (by show 2 * 0 + _ ≤ _; exact Nat.le_of_eq rfl) (hb hby at_158) (fun _ _ => ⟨rfl, rfl, (by decide : 4 + 0 ≤ _), (by decide : 9 + 0 ≤ _)⟩)
        dsimp only [Pt.U, Pt.locs, Pt.cells, Pt.slots] at Xc33 l33 y33 z33 st33 hQ33
        have X33 := own_cast Xc33 l33 y33 z33
        obtain ⟨ev33, N33q, K33⟩ := hQ33
        rw [ev33] at st33
        have N33 := Fr.app N32 N33q
        refine own_st (fun tgt k => st33.trans k) ?_
        show own_Go p e below _ (T33.setTop (mkF m 161 #[.val (.int fl), .val (.long ka), .second, .val (.long kb), .second, .val (.long kc), .second, .val (.ref sv), .val (.int (1 : Int32)), .val (.int (0 : Int32)), .val (.int (0 : Int32)), .val (.long ka), .second, .val (.int (1 : Int32)), .val (.long kb), .second, .val (.long ka), .second, .val (.int (1 : Int32))] [(.int ((if (own_bf (own_upJ (own_upJ (fun _ => 0) 1 ka) 0 kb) ((own_up (own_up (fun _ => 0) 0 (1 : Int32)) 1 (0 : Int32)) 1) ((own_up (own_up (fun _ => 0) 0 (1 : Int32)) 1 (0 : Int32)) 0) 0 1) = 0 then (own_up (own_up (fun _ => 0) 0 ((own_up (own_up (fun _ => 0) 0 (1 : Int32)) 1 (0 : Int32)) 0)) 1 ((own_up (own_up (fun _ => 0) 0 (1 : Int32)) 1 (0 : Int32)) 1)) else (own_up (own_up (fun _ => 0) 0 ((own_up (own_up (fun _ => 0) 0 (1 : Int32)) 1 (0 : Int32)) 1)) 1 ((own_up (own_up (fun _ => 0) 0 (1 : Int32)) 1 (0 : Int32)) 0))) 0))]))
        refine own_st (V := T33.setTop (mkF m 169 #[.val (.int fl), .val (.long ka), .second, .val (.long kb), .second, .val (.long kc), .second, .val (.ref sv), .val (.int (1 : Int32)), .val (.int (0 : Int32)), .val (.int (0 : Int32)), .val (.long ka), .second, .val (.int (1 : Int32)), .val (.long kb), .second, .val (.long ka), .second, .val (.int (1 : Int32))] [(.int (1 : Int32)), (.ref sv)])) (fun tgt k => ?_) ?_
        · show Steps p.tables e below (T33.setTop (mkF m 161 #[.val (.int fl), .val (.long ka), .second, .val (.long kb), .second, .val (.long kc), .second, .val (.ref sv), .val (.int (1 : Int32)), .val (.int (0 : Int32)), .val (.int (0 : Int32)), .val (.long ka), .second, .val (.int (1 : Int32)), .val (.long kb), .second, .val (.long ka), .second, .val (.int (1 : Int32))] [(.int ((if (own_bf (own_upJ (own_upJ (fun _ => 0) 1 ka) 0 kb) ((own_up (own_up (fun _ => 0) 0 (1 : Int32)) 1 (0 : Int32)) 1) ((own_up (own_up (fun _ => 0) 0 (1 : Int32)) 1 (0 : Int32)) 0) 0 1) = 0 then (own_up (own_up (fun _ => 0) 0 ((own_up (own_up (fun _ => 0) 0 (1 : Int32)) 1 (0 : Int32)) 0)) 1 ((own_up (own_up (fun _ => 0) 0 (1 : Int32)) 1 (0 : Int32)) 1)) else (own_up (own_up (fun _ => 0) 0 ((own_up (own_up (fun _ => 0) 0 (1 : Int32)) 1 (0 : Int32)) 1)) 1 ((own_up (own_up (fun _ => 0) 0 (1 : Int32)) 1 (0 : Int32)) 0))) 0))])) tgt
          refine XS.iload X33.here hx rfl (hb hby at_161) rfl ?_
          show Steps p.tables e below (T33.setTop (mkF m 163 #[.val (.int fl), .val (.long ka), .second, .val (.long kb), .second, .val (.long kc), .second, .val (.ref sv), .val (.int (1 : Int32)), .val (.int (0 : Int32)), .val (.int (0 : Int32)), .val (.long ka), .second, .val (.int (1 : Int32)), .val (.long kb), .second, .val (.long ka), .second, .val (.int (1 : Int32))] [(.int (1 : Int32)), (.int ((if (own_bf (own_upJ (own_upJ (fun _ => 0) 1 ka) 0 kb) ((own_up (own_up (fun _ => 0) 0 (1 : Int32)) 1 (0 : Int32)) 1) ((own_up (own_up (fun _ => 0) 0 (1 : Int32)) 1 (0 : Int32)) 0) 0 1) = 0 then (own_up (own_up (fun _ => 0) 0 ((own_up (own_up (fun _ => 0) 0 (1 : Int32)) 1 (0 : Int32)) 0)) 1 ((own_up (own_up (fun _ => 0) 0 (1 : Int32)) 1 (0 : Int32)) 1)) else (own_up (own_up (fun _ => 0) 0 ((own_up (own_up (fun _ => 0) 0 (1 : Int32)) 1 (0 : Int32)) 1)) 1 ((own_up (own_up (fun _ => 0) 0 (1 : Int32)) 1 (0 : Int32)) 0))) 0))])) tgt
          refine XS.icmpNo X33.here hx rfl (hb hby at_163) rfl (teq (by simp [own_bf, own_b10, own_b01, own_up, own_upJ, hc134])).2 ?_
          show Steps p.tables e below (T33.setTop (mkF m 166 #[.val (.int fl), .val (.long ka), .second, .val (.long kb), .second, .val (.long kc), .second, .val (.ref sv), .val (.int (1 : Int32)), .val (.int (0 : Int32)), .val (.int (0 : Int32)), .val (.long ka), .second, .val (.int (1 : Int32)), .val (.long kb), .second, .val (.long ka), .second, .val (.int (1 : Int32))] [])) tgt
          refine XS.aload X33.here hx rfl (hb hby at_166) rfl rfl ?_
          show Steps p.tables e below (T33.setTop (mkF m 168 #[.val (.int fl), .val (.long ka), .second, .val (.long kb), .second, .val (.long kc), .second, .val (.ref sv), .val (.int (1 : Int32)), .val (.int (0 : Int32)), .val (.int (0 : Int32)), .val (.long ka), .second, .val (.int (1 : Int32)), .val (.long kb), .second, .val (.long ka), .second, .val (.int (1 : Int32))] [(.ref sv)])) tgt
          refine XS.iconst X33.here hx rfl (hb hby at_168) ?_
          exact k
        obtain ⟨cq34, kq34, q34a, q34b, q34c⟩ := isOf hZ K33 E_sv_32
        obtain ⟨v34, _, ⟨T34, L34, k34, n34⟩, -, Xc34, ⟨Lc34, hQ34, l34, y34, z34⟩, st34⟩ := X33.virtualBack hx (y := (⟨"com/example/chainwright/chainwright/KeySort", "number", "(I)I"⟩ : MethodName)) (z := (⟨"com/example/chainwright/chainwright/KeySort", "number", "(I)I"⟩ : MethodName)) hown (mvT hZ (hw _ (List.mem_of_getElem? (i := 22) rfl))) (mvT hZ (hw _ (List.mem_of_getElem? (i := 23) rfl))) (notFace_of_selects (args := #[]) (mvT hZ (hw _ (List.mem_of_getElem? (i := 25) rfl)))) (mvT hZ (hw _ (List.mem_of_getElem? (i := 25) rfl))) (mvT hZ (hw _ (List.mem_of_getElem? (i := 24) rfl))) (by decide) (backOf (W := 0) (rm4 l Z a0 hw [] sv (1 : Int32) nu_2 (if (own_bf (own_upJ (own_upJ (fun _ => 0) 1 ka) 0 kb) ((own_up (own_up (fun _ => 0) 0 (1 : Int32)) 1 (0 : Int32)) 1) ((own_up (own_up (fun _ => 0) 0 (1 : Int32)) 1 (0 : Int32)) 0) 0 1) = 0 then (own_up (own_up (fun _ => 0) 0 ((own_up (own_up (fun _ => 0) 0 (1 : Int32)) 1 (0 : Int32)) 0)) 1 ((own_up (own_up (fun _ => 0) 0 (1 : Int32)) 1 (0 : Int32)) 1)) else (own_up (own_up (fun _ => 0) 0 ((own_up (own_up (fun _ => 0) 0 (1 : Int32)) 1 (0 : Int32)) 1)) 1 ((own_up (own_up (fun _ => 0) 0 (1 : Int32)) 1 (0 : Int32)) 0))) 1 T32.heap n0 Zs32 F_sv_numbers_32 g32_0 (by decide) (by decide)) hZ (hw _ (List.mem_of_getElem? (i := 26) rfl)) (hw _ (List.mem_of_getElem? (i := 2) rfl)) (by decide) (by decide)) q34a q34c (g := (mkF m 169 #[.val (.int fl), .val (.long ka), .second, .val (.long kb), .second, .val (.long kc), .second, .val (.ref sv), .val (.int (1 : Int32)), .val (.int (0 : Int32)), .val (.int (0 : Int32)), .val (.long ka), .second, .val (.int (1 : Int32)), .val (.long kb), .second, .val (.long ka), .second, .val (.int (1 : Int32))] [(.int (1 : Int32)), (.ref sv)])) rfl (by rw [hml]; rfl) (Steps.refl _) (argsL := [(.int (1 : Int32))]) (rest := []) (lenOf pd_0_2 rfl) rfl (by show 2 * 0 + _ ≤ _; exact Nat.le_of_eq rfl) (hb hby at_169) (fun _ _ => ⟨rfl, K33, (by decide : 4 + 0 ≤ _), (by decide : 9 + 0 ≤ _)⟩)
        dsimp only [Pt.U, Pt.locs, Pt.cells, Pt.slots] at Xc34 l34 y34 z34 st34 hQ34
        have X34 := own_cast Xc34 l34 y34 z34
        obtain ⟨ev34, N34q, K34⟩ := hQ34
        rw [ev34] at st34
        have N34 := Fr.app N33 N34q
        refine own_st (fun tgt k => st34.trans k) ?_
        show own_Go p e below _ (T34.setTop (mkF m 172 #[.val (.int fl), .val (.long ka), .second, .val (.long kb), .second, .val (.long kc), .second, .val (.ref sv), .val (.int (1 : Int32)), .val (.int (0 : Int32)), .val (.int (0 : Int32)), .val (.long ka), .second, .val (.int (1 : Int32)), .val (.long kb), .second, .val (.long ka), .second, .val (.int (1 : Int32))] [(.int ((if (own_bf (own_upJ (own_upJ (fun _ => 0) 1 ka) 0 kb) ((own_up (own_up (fun _ => 0) 0 (1 : Int32)) 1 (0 : Int32)) 1) ((own_up (own_up (fun _ => 0) 0 (1 : Int32)) 1 (0 : Int32)) 0) 0 1) = 0 then (own_up (own_up (fun _ => 0) 0 ((own_up (own_up (fun _ => 0) 0 (1 : Int32)) 1 (0 : Int32)) 0)) 1 ((own_up (own_up (fun _ => 0) 0 (1 : Int32)) 1 (0 : Int32)) 1)) else (own_up (own_up (fun _ => 0) 0 ((own_up (own_up (fun _ => 0) 0 (1 : Int32)) 1 (0 : Int32)) 1)) 1 ((own_up (own_up (fun _ => 0) 0 (1 : Int32)) 1 (0 : Int32)) 0))) 1))]))
        refine own_st (V := T34.setTop (mkF m 176 #[.val (.int fl), .val (.long ka), .second, .val (.long kb), .second, .val (.long kc), .second, .val (.ref sv), .val (.int (1 : Int32)), .val (.int (0 : Int32)), .val (.int (0 : Int32)), .val (.long ka), .second, .val (.int (1 : Int32)), .val (.long kb), .second, .val (.long ka), .second, .val (.int (1 : Int32))] [(.int ((1 : Int32) - (1 : Int32))), (.int ((if (own_bf (own_upJ (own_upJ (fun _ => 0) 1 ka) 0 kb) ((own_up (own_up (fun _ => 0) 0 (1 : Int32)) 1 (0 : Int32)) 1) ((own_up (own_up (fun _ => 0) 0 (1 : Int32)) 1 (0 : Int32)) 0) 0 1) = 0 then (own_up (own_up (fun _ => 0) 0 ((own_up (own_up (fun _ => 0) 0 (1 : Int32)) 1 (0 : Int32)) 0)) 1 ((own_up (own_up (fun _ => 0) 0 (1 : Int32)) 1 (0 : Int32)) 1)) else (own_up (own_up (fun _ => 0) 0 ((own_up (own_up (fun _ => 0) 0 (1 : Int32)) 1 (0 : Int32)) 1)) 1 ((own_up (own_up (fun _ => 0) 0 (1 : Int32)) 1 (0 : Int32)) 0))) 1))])) (fun tgt k => ?_) ?_
        · show Steps p.tables e below (T34.setTop (mkF m 172 #[.val (.int fl), .val (.long ka), .second, .val (.long kb), .second, .val (.long kc), .second, .val (.ref sv), .val (.int (1 : Int32)), .val (.int (0 : Int32)), .val (.int (0 : Int32)), .val (.long ka), .second, .val (.int (1 : Int32)), .val (.long kb), .second, .val (.long ka), .second, .val (.int (1 : Int32))] [(.int ((if (own_bf (own_upJ (own_upJ (fun _ => 0) 1 ka) 0 kb) ((own_up (own_up (fun _ => 0) 0 (1 : Int32)) 1 (0 : Int32)) 1) ((own_up (own_up (fun _ => 0) 0 (1 : Int32)) 1 (0 : Int32)) 0) 0 1) = 0 then (own_up (own_up (fun _ => 0) 0 ((own_up (own_up (fun _ => 0) 0 (1 : Int32)) 1 (0 : Int32)) 0)) 1 ((own_up (own_up (fun _ => 0) 0 (1 : Int32)) 1 (0 : Int32)) 1)) else (own_up (own_up (fun _ => 0) 0 ((own_up (own_up (fun _ => 0) 0 (1 : Int32)) 1 (0 : Int32)) 1)) 1 ((own_up (own_up (fun _ => 0) 0 (1 : Int32)) 1 (0 : Int32)) 0))) 1))])) tgt
          refine XS.iconst X34.here hx rfl (hb hby at_172) ?_
          show Steps p.tables e below (T34.setTop (mkF m 173 #[.val (.int fl), .val (.long ka), .second, .val (.long kb), .second, .val (.long kc), .second, .val (.ref sv), .val (.int (1 : Int32)), .val (.int (0 : Int32)), .val (.int (0 : Int32)), .val (.long ka), .second, .val (.int (1 : Int32)), .val (.long kb), .second, .val (.long ka), .second, .val (.int (1 : Int32))] [(.int (1 : Int32)), (.int ((if (own_bf (own_upJ (own_upJ (fun _ => 0) 1 ka) 0 kb) ((own_up (own_up (fun _ => 0) 0 (1 : Int32)) 1 (0 : Int32)) 1) ((own_up (own_up (fun _ => 0) 0 (1 : Int32)) 1 (0 : Int32)) 0) 0 1) = 0 then (own_up (own_up (fun _ => 0) 0 ((own_up (own_up (fun _ => 0) 0 (1 : Int32)) 1 (0 : Int32)) 0)) 1 ((own_up (own_up (fun _ => 0) 0 (1 : Int32)) 1 (0 : Int32)) 1)) else (own_up (own_up (fun _ => 0) 0 ((own_up (own_up (fun _ => 0) 0 (1 : Int32)) 1 (0 : Int32)) 1)) 1 ((own_up (own_up (fun _ => 0) 0 (1 : Int32)) 1 (0 : Int32)) 0))) 1))])) tgt
          refine XS.iload X34.here hx rfl (hb hby at_173) rfl ?_
          show Steps p.tables e below (T34.setTop (mkF m 175 #[.val (.int fl), .val (.long ka), .second, .val (.long kb), .second, .val (.long kc), .second, .val (.ref sv), .val (.int (1 : Int32)), .val (.int (0 : Int32)), .val (.int (0 : Int32)), .val (.long ka), .second, .val (.int (1 : Int32)), .val (.long kb), .second, .val (.long ka), .second, .val (.int (1 : Int32))] [(.int (1 : Int32)), (.int (1 : Int32)), (.int ((if (own_bf (own_upJ (own_upJ (fun _ => 0) 1 ka) 0 kb) ((own_up (own_up (fun _ => 0) 0 (1 : Int32)) 1 (0 : Int32)) 1) ((own_up (own_up (fun _ => 0) 0 (1 : Int32)) 1 (0 : Int32)) 0) 0 1) = 0 then (own_up (own_up (fun _ => 0) 0 ((own_up (own_up (fun _ => 0) 0 (1 : Int32)) 1 (0 : Int32)) 0)) 1 ((own_up (own_up (fun _ => 0) 0 (1 : Int32)) 1 (0 : Int32)) 1)) else (own_up (own_up (fun _ => 0) 0 ((own_up (own_up (fun _ => 0) 0 (1 : Int32)) 1 (0 : Int32)) 1)) 1 ((own_up (own_up (fun _ => 0) 0 (1 : Int32)) 1 (0 : Int32)) 0))) 1))])) tgt
          refine XS.isub X34.here hx rfl (hb hby at_175) rfl ?_
          exact k
        rw [show ((1 : Int32) - (1 : Int32)) = (0 : Int32) from by decide]
        refine own_st (V := T34.setTop (mkF m 184 #[.val (.int fl), .val (.long ka), .second, .val (.long kb), .second, .val (.long kc), .second, .val (.ref sv), .val (.int (1 : Int32)), .val (.int (0 : Int32)), .val (.int (0 : Int32)), .val (.long ka), .second, .val (.int (1 : Int32)), .val (.long kb), .second, .val (.long ka), .second, .val (.int (1 : Int32))] [(.int (1 : Int32))])) (fun tgt k => ?_) ?_
        · show Steps p.tables e below (T34.setTop (mkF m 176 #[.val (.int fl), .val (.long ka), .second, .val (.long kb), .second, .val (.long kc), .second, .val (.ref sv), .val (.int (1 : Int32)), .val (.int (0 : Int32)), .val (.int (0 : Int32)), .val (.long ka), .second, .val (.int (1 : Int32)), .val (.long kb), .second, .val (.long ka), .second, .val (.int (1 : Int32))] [(.int (0 : Int32)), (.int ((if (own_bf (own_upJ (own_upJ (fun _ => 0) 1 ka) 0 kb) ((own_up (own_up (fun _ => 0) 0 (1 : Int32)) 1 (0 : Int32)) 1) ((own_up (own_up (fun _ => 0) 0 (1 : Int32)) 1 (0 : Int32)) 0) 0 1) = 0 then (own_up (own_up (fun _ => 0) 0 ((own_up (own_up (fun _ => 0) 0 (1 : Int32)) 1 (0 : Int32)) 0)) 1 ((own_up (own_up (fun _ => 0) 0 (1 : Int32)) 1 (0 : Int32)) 1)) else (own_up (own_up (fun _ => 0) 0 ((own_up (own_up (fun _ => 0) 0 (1 : Int32)) 1 (0 : Int32)) 1)) 1 ((own_up (own_up (fun _ => 0) 0 (1 : Int32)) 1 (0 : Int32)) 0))) 1))])) tgt
          refine XS.icmpNo X34.here hx rfl (hb hby at_176) rfl (teq (by simp [own_bf, own_b10, own_b01, own_up, own_upJ, hc134])).2 ?_
          show Steps p.tables e below (T34.setTop (mkF m 179 #[.val (.int fl), .val (.long ka), .second, .val (.long kb), .second, .val (.long kc), .second, .val (.ref sv), .val (.int (1 : Int32)), .val (.int (0 : Int32)), .val (.int (0 : Int32)), .val (.long ka), .second, .val (.int (1 : Int32)), .val (.long kb), .second, .val (.long ka), .second, .val (.int (1 : Int32))] [])) tgt
          refine XS.iconst X34.here hx rfl (hb hby at_179) ?_
          show Steps p.tables e below (T34.setTop (mkF m 180 #[.val (.int fl), .val (.long ka), .second, .val (.long kb), .second, .val (.long kc), .second, .val (.ref sv), .val (.int (1 : Int32)), .val (.int (0 : Int32)), .val (.int (0 : Int32)), .val (.long ka), .second, .val (.int (1 : Int32)), .val (.long kb), .second, .val (.long ka), .second, .val (.int (1 : Int32))] [(.int (1 : Int32))])) tgt
          refine XS.goto X34.here hx rfl (pc0 := 180) (pc' := 184) rfl (hb hby at_180) (by decide) (by decide) ?_
          exact k
        refine own_retN X34 hx hlk (t := .boolean) (z' := (1 : Int32)) Bd.returns (by simp) rfl (hb hby at_184) ?_ (by decide) (by decide)
        show Q0 Z fl ka kb kc h0 n0 (some (.int (1 : Int32))) T34.heap _
        rw [K34]
        exact ⟨rfl, N34⟩
      · skip
        refine own_st (V := T31.setTop (mkF m 147 #[.val (.int fl), .val (.long ka), .second, .val (.long kb), .second, .val (.long kc), .second, .val (.ref sv), .val (.int (1 : Int32)), .val (.int (0 : Int32)), .val (.int (0 : Int32)), .val (.long ka), .second, .val (.int (1 : Int32)), .val (.long kb), .second, .val (.long ka), .second, .val (.int (0 : Int32))] [(.int (2 : Int32)), (.ref sv)])) (fun tgt k => ?_) ?_
        · show Steps p.tables e below (T31.setTop (mkF m 134 #[.val (.int fl), .val (.long ka), .second, .val (.long kb), .second, .val (.long kc), .second, .val (.ref sv), .val (.int (1 : Int32)), .val (.int (0 : Int32)), .val (.int (0 : Int32)), .val (.long ka), .second, .val (.int (1 : Int32)), .val (.long kb), .second, .val (.long ka), .second, .unset] [(.int (lcmpW ka kb))])) tgt
          refine XS.ifYes X31.here hx rfl (pc0 := 134) (pc' := 141) rfl (hb hby at_134) rfl ((if0 _ _).trans (flt (fun q => hc134 ((lw_lt ka kb).mp q))).2.1) (by decide) (by decide) ?_
          show Steps p.tables e below (T31.setTop (mkF m 141 #[.val (.int fl), .val (.long ka), .second, .val (.long kb), .second, .val (.long kc), .second, .val (.ref sv), .val (.int (1 : Int32)), .val (.int (0 : Int32)), .val (.int (0 : Int32)), .val (.long ka), .second, .val (.int (1 : Int32)), .val (.long kb), .second, .val (.long ka), .second, .unset] [])) tgt
          refine XS.iconst X31.here hx rfl (hb hby at_141) ?_
          show Steps p.tables e below (T31.setTop (mkF m 142 #[.val (.int fl), .val (.long ka), .second, .val (.long kb), .second, .val (.long kc), .second, .val (.ref sv), .val (.int (1 : Int32)), .val (.int (0 : Int32)), .val (.int (0 : Int32)), .val (.long ka), .second, .val (.int (1 : Int32)), .val (.long kb), .second, .val (.long ka), .second, .unset] [(.int (0 : Int32))])) tgt
          refine XS.istore X31.here hx rfl (hb hby at_142) rfl (l' := #[.val (.int fl), .val (.long ka), .second, .val (.long kb), .second, .val (.long kc), .second, .val (.ref sv), .val (.int (1 : Int32)), .val (.int (0 : Int32)), .val (.int (0 : Int32)), .val (.long ka), .second, .val (.int (1 : Int32)), .val (.long kb), .second, .val (.long ka), .second, .val (.int (0 : Int32))]) rfl ?_
          show Steps p.tables e below (T31.setTop (mkF m 144 #[.val (.int fl), .val (.long ka), .second, .val (.long kb), .second, .val (.long kc), .second, .val (.ref sv), .val (.int (1 : Int32)), .val (.int (0 : Int32)), .val (.int (0 : Int32)), .val (.long ka), .second, .val (.int (1 : Int32)), .val (.long kb), .second, .val (.long ka), .second, .val (.int (0 : Int32))] [])) tgt
          refine XS.aload X31.here hx rfl (hb hby at_144) rfl rfl ?_
          show Steps p.tables e below (T31.setTop (mkF m 146 #[.val (.int fl), .val (.long ka), .second, .val (.long kb), .second, .val (.long kc), .second, .val (.ref sv), .val (.int (1 : Int32)), .val (.int (0 : Int32)), .val (.int (0 : Int32)), .val (.long ka), .second, .val (.int (1 : Int32)), .val (.long kb), .second, .val (.long ka), .second, .val (.int (0 : Int32))] [(.ref sv)])) tgt
          refine XS.iconst X31.here hx rfl (hb hby at_146) ?_
          exact k
        obtain ⟨cq36, kq36, q36a, q36b, q36c⟩ := isOf hZ K31 E_sv_29
        obtain ⟨v36, _, ⟨T36, L36, k36, n36⟩, -, Xc36, ⟨Lc36, hQ36, l36, y36, z36⟩, st36⟩ := X31.virtualBack hx (y := (⟨"com/example/chainwright/chainwright/KeySort", "sort", "(I)V"⟩ : MethodName)) (z := (⟨"com/example/chainwright/chainwright/KeySort", "sort", "(I)V"⟩ : MethodName)) hown (mvT hZ (hw _ (List.mem_of_getElem? (i := 27) rfl))) (mvT hZ (hw _ (List.mem_of_getElem? (i := 28) rfl))) (notFace_of_selects (args := #[]) (mvT hZ (hw _ (List.mem_of_getElem? (i := 30) rfl)))) (mvT hZ (hw _ (List.mem_of_getElem? (i := 30) rfl))) (mvT hZ (hw _ (List.mem_of_getElem? (i := 29) rfl))) (by decide) (backOf (W := 0) (rm5 l Z a0 hw [] sv (2 : Int32) nu_2 ke_2 ro_2 (own_up (own_up (fun _ => 0) 0 (1 : Int32)) 1 (0 : Int32)) (own_upJ (own_upJ (fun _ => 0) 1 ka) 0 kb) (fun _ => 0) 1 0 T29.heap n0 Zs29 E_sv_29 F_sv_numbers_29 F_sv_keys_29 F_sv_room_29 g29_0 g29_1 A_ro_2_29 g2_3 g2_5 g2_6 g2_7 g2_8 ne_sv_nu_2 ne_sv_ro_2 rfl (by decide) (by decide) (by decide) (by decide)) hZ (hw _ (List.mem_of_getElem? (i := 31) rfl)) (hw _ (List.mem_of_getElem? (i := 2) rfl)) (by decide) (by decide)) q36a q36c (g := (mkF m 147 #[.val (.int fl), .val (.long ka), .second, .val (.long kb), .second, .val (.long kc), .second, .val (.ref sv), .val (.int (1 : Int32)), .val (.int (0 : Int32)), .val (.int (0 : Int32)), .val (.long ka), .second, .val (.int (1 : Int32)), .val (.long kb), .second, .val (.long ka), .second, .val (.int (0 : Int32))] [(.int (2 : Int32)), (.ref sv)])) rfl (by rw [hml]; rfl) (Steps.refl _) (argsL := [(.int (2 : Int32))]) (rest := []) (lenOf pd_0_0 rfl) rfl (by show 2 * 0 + _ ≤ _; exact Nat.le_of_eq rfl) (hb hby at_147) (fun _ _ => ⟨rfl, K31, (by decide : 4 + 0 ≤ _), (by decide : 9 + 0 ≤ _)⟩)
        dsimp only [Pt.U, Pt.locs, Pt.cells, Pt.slots] at Xc36 l36 y36 z36 st36 hQ36
        have X36 := own_cast Xc36 l36 y36 z36
        obtain ⟨ev36, N36q, K36, g36_0⟩ := hQ36
        rw [ev36] at st36
        have N36 := Fr.app N31 N36q
        have E_sv_36 := E_sv_29.keep K36
        have F_sv_numbers_36 := F_sv_numbers_29.keep K36 (ninS ne_sv_nu_2 (ninS ne_sv_ro_2 nin0))
        have F_sv_keys_36 := F_sv_keys_29.keep K36 (ninS ne_sv_nu_2 (ninS ne_sv_ro_2 nin0))
        have F_sv_room_36 := F_sv_room_29.keep K36 (ninS ne_sv_nu_2 (ninS ne_sv_ro_2 nin0))
        have A_ke_2_36 := g29_1.keep K36 (ninS (Ne.symm g2_6) (ninS g2_8 nin0))
        have Zs36 : n0 ≤ T36.heap.size := Nat.le_trans Zs29 K36.1
        refine own_st (fun tgt k => st36.trans k) ?_
        show own_Go p e below _ (T36.setTop (mkF m 150 #[.val (.int fl), .val (.long ka), .second, .val (.long kb), .second, .val (.long kc), .second, .val (.ref sv), .val (.int (1 : Int32)), .val (.int (0 : Int32)), .val (.int (0 : Int32)), .val (.long ka), .second, .val (.int (1 : Int32)), .val (.long kb), .second, .val (.long ka), .second, .val (.int (0 : Int32))] []))
        refine own_st (V := T36.setTop (mkF m 158 #[.val (.int fl), .val (.long ka), .second, .val (.long kb), .second, .val (.long kc), .second, .val (.ref sv), .val (.int (1 : Int32)), .val (.int (0 : Int32)), .val (.int (0 : Int32)), .val (.long ka), .second, .val (.int (1 : Int32)), .val (.long kb), .second, .val (.long ka), .second, .val (.int (0 : Int32))] [(.int (0 : Int32)), (.ref sv)])) (fun tgt k => ?_) ?_
        · show Steps p.tables e below (T36.setTop (mkF m 150 #[.val (.int fl), .val (.long ka), .second, .val (.long kb), .second, .val (.long kc), .second, .val (.ref sv), .val (.int (1 : Int32)), .val (.int (0 : Int32)), .val (.int (0 : Int32)), .val (.long ka), .second, .val (.int (1 : Int32)), .val (.long kb), .second, .val (.long ka), .second, .val (.int (0 : Int32))] [])) tgt
          refine XS.iload X36.here hx rfl (hb hby at_150) rfl ?_
          show Steps p.tables e below (T36.setTop (mkF m 152 #[.val (.int fl), .val (.long ka), .second, .val (.long kb), .second, .val (.long kc), .second, .val (.ref sv), .val (.int (1 : Int32)), .val (.int (0 : Int32)), .val (.int (0 : Int32)), .val (.long ka), .second, .val (.int (1 : Int32)), .val (.long kb), .second, .val (.long ka), .second, .val (.int (0 : Int32))] [(.int (1 : Int32))])) tgt
          refine XS.ifNo X36.here hx rfl (hb hby at_152) rfl ((if0 _ _).trans (feq (by decide : ¬ ((1 : Int32) = (0 : Int32)))).1) ?_
          show Steps p.tables e below (T36.setTop (mkF m 155 #[.val (.int fl), .val (.long ka), .second, .val (.long kb), .second, .val (.long kc), .second, .val (.ref sv), .val (.int (1 : Int32)), .val (.int (0 : Int32)), .val (.int (0 : Int32)), .val (.long ka), .second, .val (.int (1 : Int32)), .val (.long kb), .second, .val (.long ka), .second, .val (.int (0 : Int32))] [])) tgt
          refine XS.aload X36.here hx rfl (hb hby at_155) rfl rfl ?_
          show Steps p.tables e below (T36.setTop (mkF m 157 #[.val (.int fl), .val (.long ka), .second, .val (.long kb), .second, .val (.long kc), .second, .val (.ref sv), .val (.int (1 : Int32)), .val (.int (0 : Int32)), .val (.int (0 : Int32)), .val (.long ka), .second, .val (.int (1 : Int32)), .val (.long kb), .second, .val (.long ka), .second, .val (.int (0 : Int32))] [(.ref sv)])) tgt
          refine XS.iconst X36.here hx rfl (hb hby at_157) ?_
          exact k
        obtain ⟨cq37, kq37, q37a, q37b, q37c⟩ := isOf hZ rfl E_sv_36
        obtain ⟨v37, _, ⟨T37, L37, k37, n37⟩, -, Xc37, ⟨Lc37, hQ37, l37, y37, z37⟩, st37⟩ := X36.virtualBack hx (y := (⟨"com/example/chainwright/chainwright/KeySort", "number", "(I)I"⟩ : MethodName)) (z := (⟨"com/example/chainwright/chainwright/KeySort", "number", "(I)I"⟩ : MethodName)) hown (mvT hZ (hw _ (List.mem_of_getElem? (i := 22) rfl))) (mvT hZ (hw _ (List.mem_of_getElem? (i := 23) rfl))) (notFace_of_selects (args := #[]) (mvT hZ (hw _ (List.mem_of_getElem? (i := 25) rfl)))) (mvT hZ (hw _ (List.mem_of_getElem? (i := 25) rfl))) (mvT hZ (hw _ (List.mem_of_getElem? (i := 24) rfl))) (by decide) (backOf (W := 0) (rm4 l Z a0 hw [] sv (0 : Int32) nu_2 (if (own_bf (own_upJ (own_upJ (fun _ => 0) 1 ka) 0 kb) ((own_up (own_up (fun _ => 0) 0 (1 : Int32)) 1 (0 : Int32)) 1) ((own_up (own_up (fun _ => 0) 0 (1 : Int32)) 1 (0 : Int32)) 0) 0 1) = 0 then (own_up (own_up (fun _ => 0) 0 ((own_up (own_up (fun _ => 0) 0 (1 : Int32)) 1 (0 : Int32)) 0)) 1 ((own_up (own_up (fun _ => 0) 0 (1 : Int32)) 1 (0 : Int32)) 1)) else (own_up (own_up (fun _ => 0) 0 ((own_up (own_up (fun _ => 0) 0 (1 : Int32)) 1 (0 : Int32)) 1)) 1 ((own_up (own_up (fun _ => 0) 0 (1 : Int32)) 1 (0 : Int32)) 0))) 0 T36.heap n0 Zs36 F_sv_numbers_36 g36_0 (by decide) (by decide)) hZ (hw _ (List.mem_of_getElem? (i := 26) rfl)) (hw _ (List.mem_of_getElem? (i := 2) rfl)) (by decide) (by decide)) q37a q37c (g := (mkF m 158 #[.val (.int fl), .val (.long ka), .second, .val (.long kb), .second, .val (.long kc), .second, .val (.ref sv), .val (.int (1 : Int32)), .val (.int (0 : Int32)), .val (.int (0 : Int32)), .val (.long ka), .second, .val (.int (1 : Int32)), .val (.long kb), .second, .val (.long ka), .second, .val (.int (0 : Int32))] [(.int (0 : Int32)), (.ref sv)])) rfl (by rw [hml]; rfl) (Steps.refl _) (argsL := [(.int (0 : Int32))]) (rest := []) (lenOf pd_0_2 rfl) rfl (by show 2 * 0 + _ ≤ _; exact Nat.le_of_eq rfl) (hb hby at_158) (fun _ _ => ⟨rfl, rfl, (by decide : 4 + 0 ≤ _), (by decide : 9 + 0 ≤ _)⟩)
        dsimp only [Pt.U, Pt.locs, Pt.cells, Pt.slots] at Xc37 l37 y37 z37 st37 hQ37
        have X37 := own_cast Xc37 l37 y37 z37
        obtain ⟨ev37, N37q, K37⟩ := hQ37
        rw [ev37] at st37
        have N37 := Fr.app N36 N37q
        refine own_st (fun tgt k => st37.trans k) ?_
        show own_Go p e below _ (T37.setTop (mkF m 161 #[.val (.int fl), .val (.long ka), .second, .val (.long kb), .second, .val (.long kc), .second, .val (.ref sv), .val (.int (1 : Int32)), .val (.int (0 : Int32)), .val (.int (0 : Int32)), .val (.long ka), .second, .val (.int (1 : Int32)), .val (.long kb), .second, .val (.long ka), .second, .val (.int (0 : Int32))] [(.int ((if (own_bf (own_upJ (own_upJ (fun _ => 0) 1 ka) 0 kb) ((own_up (own_up (fun _ => 0) 0 (1 : Int32)) 1 (0 : Int32)) 1) ((own_up (own_up (fun _ => 0) 0 (1 : Int32)) 1 (0 : Int32)) 0) 0 1) = 0 then (own_up (own_up (fun _ => 0) 0 ((own_up (own_up (fun _ => 0) 0 (1 : Int32)) 1 (0 : Int32)) 0)) 1 ((own_up (own_up (fun _ => 0) 0 (1 : Int32)) 1 (0 : Int32)) 1)) else (own_up (own_up (fun _ => 0) 0 ((own_up (own_up (fun _ => 0) 0 (1 : Int32)) 1 (0 : Int32)) 1)) 1 ((own_up (own_up (fun _ => 0) 0 (1 : Int32)) 1 (0 : Int32)) 0))) 0))]))
        refine own_st (V := T37.setTop (mkF m 169 #[.val (.int fl), .val (.long ka), .second, .val (.long kb), .second, .val (.long kc), .second, .val (.ref sv), .val (.int (1 : Int32)), .val (.int (0 : Int32)), .val (.int (0 : Int32)), .val (.long ka), .second, .val (.int (1 : Int32)), .val (.long kb), .second, .val (.long ka), .second, .val (.int (0 : Int32))] [(.int (1 : Int32)), (.ref sv)])) (fun tgt k => ?_) ?_
        · show Steps p.tables e below (T37.setTop (mkF m 161 #[.val (.int fl), .val (.long ka), .second, .val (.long kb), .second, .val (.long kc), .second, .val (.ref sv), .val (.int (1 : Int32)), .val (.int (0 : Int32)), .val (.int (0 : Int32)), .val (.long ka), .second, .val (.int (1 : Int32)), .val (.long kb), .second, .val (.long ka), .second, .val (.int (0 : Int32))] [(.int ((if (own_bf (own_upJ (own_upJ (fun _ => 0) 1 ka) 0 kb) ((own_up (own_up (fun _ => 0) 0 (1 : Int32)) 1 (0 : Int32)) 1) ((own_up (own_up (fun _ => 0) 0 (1 : Int32)) 1 (0 : Int32)) 0) 0 1) = 0 then (own_up (own_up (fun _ => 0) 0 ((own_up (own_up (fun _ => 0) 0 (1 : Int32)) 1 (0 : Int32)) 0)) 1 ((own_up (own_up (fun _ => 0) 0 (1 : Int32)) 1 (0 : Int32)) 1)) else (own_up (own_up (fun _ => 0) 0 ((own_up (own_up (fun _ => 0) 0 (1 : Int32)) 1 (0 : Int32)) 1)) 1 ((own_up (own_up (fun _ => 0) 0 (1 : Int32)) 1 (0 : Int32)) 0))) 0))])) tgt
          refine XS.iload X37.here hx rfl (hb hby at_161) rfl ?_
          show Steps p.tables e below (T37.setTop (mkF m 163 #[.val (.int fl), .val (.long ka), .second, .val (.long kb), .second, .val (.long kc), .second, .val (.ref sv), .val (.int (1 : Int32)), .val (.int (0 : Int32)), .val (.int (0 : Int32)), .val (.long ka), .second, .val (.int (1 : Int32)), .val (.long kb), .second, .val (.long ka), .second, .val (.int (0 : Int32))] [(.int (0 : Int32)), (.int ((if (own_bf (own_upJ (own_upJ (fun _ => 0) 1 ka) 0 kb) ((own_up (own_up (fun _ => 0) 0 (1 : Int32)) 1 (0 : Int32)) 1) ((own_up (own_up (fun _ => 0) 0 (1 : Int32)) 1 (0 : Int32)) 0) 0 1) = 0 then (own_up (own_up (fun _ => 0) 0 ((own_up (own_up (fun _ => 0) 0 (1 : Int32)) 1 (0 : Int32)) 0)) 1 ((own_up (own_up (fun _ => 0) 0 (1 : Int32)) 1 (0 : Int32)) 1)) else (own_up (own_up (fun _ => 0) 0 ((own_up (own_up (fun _ => 0) 0 (1 : Int32)) 1 (0 : Int32)) 1)) 1 ((own_up (own_up (fun _ => 0) 0 (1 : Int32)) 1 (0 : Int32)) 0))) 0))])) tgt
          refine XS.icmpNo X37.here hx rfl (hb hby at_163) rfl (teq (by simp [own_bf, own_b10, own_b01, own_up, own_upJ, hc134])).2 ?_
          show Steps p.tables e below (T37.setTop (mkF m 166 #[.val (.int fl), .val (.long ka), .second, .val (.long kb), .second, .val (.long kc), .second, .val (.ref sv), .val (.int (1 : Int32)), .val (.int (0 : Int32)), .val (.int (0 : Int32)), .val (.long ka), .second, .val (.int (1 : Int32)), .val (.long kb), .second, .val (.long ka), .second, .val (.int (0 : Int32))] [])) tgt
          refine XS.aload X37.here hx rfl (hb hby at_166) rfl rfl ?_
          show Steps p.tables e below (T37.setTop (mkF m 168 #[.val (.int fl), .val (.long ka), .second, .val (.long kb), .second, .val (.long kc), .second, .val (.ref sv), .val (.int (1 : Int32)), .val (.int (0 : Int32)), .val (.int (0 : Int32)), .val (.long ka), .second, .val (.int (1 : Int32)), .val (.long kb), .second, .val (.long ka), .second, .val (.int (0 : Int32))] [(.ref sv)])) tgt
          refine XS.iconst X37.here hx rfl (hb hby at_168) ?_
          exact k
        obtain ⟨cq38, kq38, q38a, q38b, q38c⟩ := isOf hZ K37 E_sv_36
        obtain ⟨v38, _, ⟨T38, L38, k38, n38⟩, -, Xc38, ⟨Lc38, hQ38, l38, y38, z38⟩, st38⟩ := X37.virtualBack hx (y := (⟨"com/example/chainwright/chainwright/KeySort", "number", "(I)I"⟩ : MethodName)) (z := (⟨"com/example/chainwright/chainwright/KeySort", "number", "(I)I"⟩ : MethodName)) hown (mvT hZ (hw _ (List.mem_of_getElem? (i := 22) rfl))) (mvT hZ (hw _ (List.mem_of_getElem? (i := 23) rfl))) (notFace_of_selects (args := #[]) (mvT hZ (hw _ (List.mem_of_getElem? (i := 25) rfl)))) (mvT hZ (hw _ (List.mem_of_getElem? (i := 25) rfl))) (mvT hZ (hw _ (List.mem_of_getElem? (i := 24) rfl))) (by decide) (backOf (W := 0) (rm4 l Z a0 hw [] sv (1 : Int32) nu_2 (if (own_bf (own_upJ (own_upJ (fun _ => 0) 1 ka) 0 kb) ((own_up (own_up (fun _ => 0) 0 (1 : Int32)) 1 (0 : Int32)) 1) ((own_up (own_up (fun _ => 0) 0 (1 : Int32)) 1 (0 : Int32)) 0) 0 1) = 0 then (own_up (own_up (fun _ => 0) 0 ((own_up (own_up (fun _ => 0) 0 (1 : Int32)) 1 (0 : Int32)) 0)) 1 ((own_up (own_up (fun _ => 0) 0 (1 : Int32)) 1 (0 : Int32)) 1)) else (own_up (own_up (fun _ => 0) 0 ((own_up (own_up (fun _ => 0) 0 (1 : Int32)) 1 (0 : Int32)) 1)) 1 ((own_up (own_up (fun _ => 0) 0 (1 : Int32)) 1 (0 : Int32)) 0))) 1 T36.heap n0 Zs36 F_sv_numbers_36 g36_0 (by decide) (by decide)) hZ (hw _ (List.mem_of_getElem? (i := 26) rfl)) (hw _ (List.mem_of_getElem? (i := 2) rfl)) (by decide) (by decide)) q38a q38c (g := (mkF m 169 #[.val (.int fl), .val (.long ka), .second, .val (.long kb), .second, .val (.long kc), .second, .val (.ref sv), .val (.int (1 : Int32)), .val (.int (0 : Int32)), .val (.int (0 : Int32)), .val (.long ka), .second, .val (.int (1 : Int32)), .val (.long kb), .second, .val (.long ka), .second, .val (.int (0 : Int32))] [(.int (1 : Int32)), (.ref sv)])) rfl (by rw [hml]; rfl) (Steps.refl _) (argsL := [(.int (1 : Int32))]) (rest := []) (lenOf pd_0_2 rfl) rfl (by show 2 * 0 + _ ≤ _; exact Nat.le_of_eq rfl) (hb hby at_169) (fun _ _ => ⟨rfl, K37, (by decide : 4 + 0 ≤ _), (by decide : 9 + 0 ≤ _)⟩)
        dsimp only [Pt.U, Pt.locs, Pt.cells, Pt.slots] at Xc38 l38 y38 z38 st38 hQ38
        have X38 := own_cast Xc38 l38 y38 z38
        obtain ⟨ev38, N38q, K38⟩ := hQ38
        rw [ev38] at st38
        have N38 := Fr.app N37 N38q
        refine own_st (fun tgt k => st38.trans k) ?_
        show own_Go p e below _ (T38.setTop (mkF m 172 #[.val (.int fl), .val (.long ka), .second, .val (.long kb), .second, .val (.long kc), .second, .val (.ref sv), .val (.int (1 : Int32)), .val (.int (0 : Int32)), .val (.int (0 : Int32)), .val (.long ka), .second, .val (.int (1 : Int32)), .val (.long kb), .second, .val (.long ka), .second, .val (.int (0 : Int32))] [(.int ((if (own_bf (own_upJ (own_upJ (fun _ => 0) 1 ka) 0 kb) ((own_up (own_up (fun _ => 0) 0 (1 : Int32)) 1 (0 : Int32)) 1) ((own_up (own_up (fun _ => 0) 0 (1 : Int32)) 1 (0 : Int32)) 0) 0 1) = 0 then (own_up (own_up (fun _ => 0) 0 ((own_up (own_up (fun _ => 0) 0 (1 : Int32)) 1 (0 : Int32)) 0)) 1 ((own_up (own_up (fun _ => 0) 0 (1 : Int32)) 1 (0 : Int32)) 1)) else (own_up (own_up (fun _ => 0) 0 ((own_up (own_up (fun _ => 0) 0 (1 : Int32)) 1 (0 : Int32)) 1)) 1 ((own_up (own_up (fun _ => 0) 0 (1 : Int32)) 1 (0 : Int32)) 0))) 1))]))
        refine own_st (V := T38.setTop (mkF m 176 #[.val (.int fl), .val (.long ka), .second, .val (.long kb), .second, .val (.long kc), .second, .val (.ref sv), .val (.int (1 : Int32)), .val (.int (0 : Int32)), .val (.int (0 : Int32)), .val (.long ka), .second, .val (.int (1 : Int32)), .val (.long kb), .second, .val (.long ka), .second, .val (.int (0 : Int32))] [(.int ((1 : Int32) - (0 : Int32))), (.int ((if (own_bf (own_upJ (own_upJ (fun _ => 0) 1 ka) 0 kb) ((own_up (own_up (fun _ => 0) 0 (1 : Int32)) 1 (0 : Int32)) 1) ((own_up (own_up (fun _ => 0) 0 (1 : Int32)) 1 (0 : Int32)) 0) 0 1) = 0 then (own_up (own_up (fun _ => 0) 0 ((own_up (own_up (fun _ => 0) 0 (1 : Int32)) 1 (0 : Int32)) 0)) 1 ((own_up (own_up (fun _ => 0) 0 (1 : Int32)) 1 (0 : Int32)) 1)) else (own_up (own_up (fun _ => 0) 0 ((own_up (own_up (fun _ => 0) 0 (1 : Int32)) 1 (0 : Int32)) 1)) 1 ((own_up (own_up (fun _ => 0) 0 (1 : Int32)) 1 (0 : Int32)) 0))) 1))])) (fun tgt k => ?_) ?_
        · show Steps p.tables e below (T38.setTop (mkF m 172 #[.val (.int fl), .val (.long ka), .second, .val (.long kb), .second, .val (.long kc), .second, .val (.ref sv), .val (.int (1 : Int32)), .val (.int (0 : Int32)), .val (.int (0 : Int32)), .val (.long ka), .second, .val (.int (1 : Int32)), .val (.long kb), .second, .val (.long ka), .second, .val (.int (0 : Int32))] [(.int ((if (own_bf (own_upJ (own_upJ (fun _ => 0) 1 ka) 0 kb) ((own_up (own_up (fun _ => 0) 0 (1 : Int32)) 1 (0 : Int32)) 1) ((own_up (own_up (fun _ => 0) 0 (1 : Int32)) 1 (0 : Int32)) 0) 0 1) = 0 then (own_up (own_up (fun _ => 0) 0 ((own_up (own_up (fun _ => 0) 0 (1 : Int32)) 1 (0 : Int32)) 0)) 1 ((own_up (own_up (fun _ => 0) 0 (1 : Int32)) 1 (0 : Int32)) 1)) else (own_up (own_up (fun _ => 0) 0 ((own_up (own_up (fun _ => 0) 0 (1 : Int32)) 1 (0 : Int32)) 1)) 1 ((own_up (own_up (fun _ => 0) 0 (1 : Int32)) 1 (0 : Int32)) 0))) 1))])) tgt
          refine XS.iconst X38.here hx rfl (hb hby at_172) ?_
          show Steps p.tables e below (T38.setTop (mkF m 173 #[.val (.int fl), .val (.long ka), .second, .val (.long kb), .second, .val (.long kc), .second, .val (.ref sv), .val (.int (1 : Int32)), .val (.int (0 : Int32)), .val (.int (0 : Int32)), .val (.long ka), .second, .val (.int (1 : Int32)), .val (.long kb), .second, .val (.long ka), .second, .val (.int (0 : Int32))] [(.int (1 : Int32)), (.int ((if (own_bf (own_upJ (own_upJ (fun _ => 0) 1 ka) 0 kb) ((own_up (own_up (fun _ => 0) 0 (1 : Int32)) 1 (0 : Int32)) 1) ((own_up (own_up (fun _ => 0) 0 (1 : Int32)) 1 (0 : Int32)) 0) 0 1) = 0 then (own_up (own_up (fun _ => 0) 0 ((own_up (own_up (fun _ => 0) 0 (1 : Int32)) 1 (0 : Int32)) 0)) 1 ((own_up (own_up (fun _ => 0) 0 (1 : Int32)) 1 (0 : Int32)) 1)) else (own_up (own_up (fun _ => 0) 0 ((own_up (own_up (fun _ => 0) 0 (1 : Int32)) 1 (0 : Int32)) 1)) 1 ((own_up (own_up (fun _ => 0) 0 (1 : Int32)) 1 (0 : Int32)) 0))) 1))])) tgt
          refine XS.iload X38.here hx rfl (hb hby at_173) rfl ?_
          show Steps p.tables e below (T38.setTop (mkF m 175 #[.val (.int fl), .val (.long ka), .second, .val (.long kb), .second, .val (.long kc), .second, .val (.ref sv), .val (.int (1 : Int32)), .val (.int (0 : Int32)), .val (.int (0 : Int32)), .val (.long ka), .second, .val (.int (1 : Int32)), .val (.long kb), .second, .val (.long ka), .second, .val (.int (0 : Int32))] [(.int (0 : Int32)), (.int (1 : Int32)), (.int ((if (own_bf (own_upJ (own_upJ (fun _ => 0) 1 ka) 0 kb) ((own_up (own_up (fun _ => 0) 0 (1 : Int32)) 1 (0 : Int32)) 1) ((own_up (own_up (fun _ => 0) 0 (1 : Int32)) 1 (0 : Int32)) 0) 0 1) = 0 then (own_up (own_up (fun _ => 0) 0 ((own_up (own_up (fun _ => 0) 0 (1 : Int32)) 1 (0 : Int32)) 0)) 1 ((own_up (own_up (fun _ => 0) 0 (1 : Int32)) 1 (0 : Int32)) 1)) else (own_up (own_up (fun _ => 0) 0 ((own_up (own_up (fun _ => 0) 0 (1 : Int32)) 1 (0 : Int32)) 1)) 1 ((own_up (own_up (fun _ => 0) 0 (1 : Int32)) 1 (0 : Int32)) 0))) 1))])) tgt
          refine XS.isub X38.here hx rfl (hb hby at_175) rfl ?_
          exact k
        rw [show ((1 : Int32) - (0 : Int32)) = (1 : Int32) from by decide]
        refine own_st (V := T38.setTop (mkF m 184 #[.val (.int fl), .val (.long ka), .second, .val (.long kb), .second, .val (.long kc), .second, .val (.ref sv), .val (.int (1 : Int32)), .val (.int (0 : Int32)), .val (.int (0 : Int32)), .val (.long ka), .second, .val (.int (1 : Int32)), .val (.long kb), .second, .val (.long ka), .second, .val (.int (0 : Int32))] [(.int (1 : Int32))])) (fun tgt k => ?_) ?_
        · show Steps p.tables e below (T38.setTop (mkF m 176 #[.val (.int fl), .val (.long ka), .second, .val (.long kb), .second, .val (.long kc), .second, .val (.ref sv), .val (.int (1 : Int32)), .val (.int (0 : Int32)), .val (.int (0 : Int32)), .val (.long ka), .second, .val (.int (1 : Int32)), .val (.long kb), .second, .val (.long ka), .second, .val (.int (0 : Int32))] [(.int (1 : Int32)), (.int ((if (own_bf (own_upJ (own_upJ (fun _ => 0) 1 ka) 0 kb) ((own_up (own_up (fun _ => 0) 0 (1 : Int32)) 1 (0 : Int32)) 1) ((own_up (own_up (fun _ => 0) 0 (1 : Int32)) 1 (0 : Int32)) 0) 0 1) = 0 then (own_up (own_up (fun _ => 0) 0 ((own_up (own_up (fun _ => 0) 0 (1 : Int32)) 1 (0 : Int32)) 0)) 1 ((own_up (own_up (fun _ => 0) 0 (1 : Int32)) 1 (0 : Int32)) 1)) else (own_up (own_up (fun _ => 0) 0 ((own_up (own_up (fun _ => 0) 0 (1 : Int32)) 1 (0 : Int32)) 1)) 1 ((own_up (own_up (fun _ => 0) 0 (1 : Int32)) 1 (0 : Int32)) 0))) 1))])) tgt
          refine XS.icmpNo X38.here hx rfl (hb hby at_176) rfl (teq (by simp [own_bf, own_b10, own_b01, own_up, own_upJ, hc134])).2 ?_
          show Steps p.tables e below (T38.setTop (mkF m 179 #[.val (.int fl), .val (.long ka), .second, .val (.long kb), .second, .val (.long kc), .second, .val (.ref sv), .val (.int (1 : Int32)), .val (.int (0 : Int32)), .val (.int (0 : Int32)), .val (.long ka), .second, .val (.int (1 : Int32)), .val (.long kb), .second, .val (.long ka), .second, .val (.int (0 : Int32))] [])) tgt
          refine XS.iconst X38.here hx rfl (hb hby at_179) ?_
          show Steps p.tables e below (T38.setTop (mkF m 180 #[.val (.int fl), .val (.long ka), .second, .val (.long kb), .second, .val (.long kc), .second, .val (.ref sv), .val (.int (1 : Int32)), .val (.int (0 : Int32)), .val (.int (0 : Int32)), .val (.long ka), .second, .val (.int (1 : Int32)), .val (.long kb), .second, .val (.long ka), .second, .val (.int (0 : Int32))] [(.int (1 : Int32))])) tgt
          refine XS.goto X38.here hx rfl (pc0 := 180) (pc' := 184) rfl (hb hby at_180) (by decide) (by decide) ?_
          exact k
        refine own_retN X38 hx hlk (t := .boolean) (z' := (1 : Int32)) Bd.returns (by simp) rfl (hb hby at_184) ?_ (by decide) (by decide)
        show Q0 Z fl ka kb kc h0 n0 (some (.int (1 : Int32))) T38.heap _
        rw [K38]
        exact ⟨rfl, N38⟩
    · skip
      refine own_st (V := T2.setTop (mkF m 40 #[.val (.int fl), .val (.long ka), .second, .val (.long kb), .second, .val (.long kc), .second, .val (.ref sv), .val (.int (1 : Int32)), .val (.int (0 : Int32)), .val (.int (1 : Int32)), .unset, .unset, .unset, .unset, .unset, .unset, .unset, .unset] [(.long ka), (.int (1 : Int32)), (.int (0 : Int32)), (.ref sv)])) (fun tgt k => ?_) ?_
      · show Steps p.tables e below (T2.setTop (mkF m 24 #[.val (.int fl), .val (.long ka), .second, .val (.long kb), .second, .val (.long kc), .second, .val (.ref sv), .val (.int (1 : Int32)), .val (.int (0 : Int32)), .unset, .unset, .unset, .unset, .unset, .unset, .unset, .unset, .unset] [(.int (fl &&& (2 : Int32)))])) tgt
        refine XS.ifNo X2.here hx rfl (hb hby at_24) rfl ((if0 _ _).trans (feq hc24).1) ?_
        show Steps p.tables e below (T2.setTop (mkF m 27 #[.val (.int fl), .val (.long ka), .second, .val (.long kb), .second, .val (.long kc), .second, .val (.ref sv), .val (.int (1 : Int32)), .val (.int (0 : Int32)), .unset, .unset, .unset, .unset, .unset, .unset, .unset, .unset, .unset] [])) tgt
        refine XS.iconst X2.here hx rfl (hb hby at_27) ?_
        show Steps p.tables e below (T2.setTop (mkF m 28 #[.val (.int fl), .val (.long ka), .second, .val (.long kb), .second, .val (.long kc), .second, .val (.ref sv), .val (.int (1 : Int32)), .val (.int (0 : Int32)), .unset, .unset, .unset, .unset, .unset, .unset, .unset, .unset, .unset] [(.int (1 : Int32))])) tgt
        refine XS.goto X2.here hx rfl (pc0 := 28) (pc' := 32) rfl (hb hby at_28) (by decide) (by decide) ?_
        show Steps p.tables e below (T2.setTop (mkF m 32 #[.val (.int fl), .val (.long ka), .second, .val (.long kb), .second, .val (.long kc), .second, .val (.ref sv), .val (.int (1 : Int32)), .val (.int (0 : Int32)), .unset, .unset, .unset, .unset, .unset, .unset, .unset, .unset, .unset] [(.int (1 : Int32))])) tgt
        refine XS.istore X2.here hx rfl (hb hby at_32) rfl (l' := #[.val (.int fl), .val (.long ka), .second, .val (.long kb), .second, .val (.long kc), .second, .val (.ref sv), .val (.int (1 : Int32)), .val (.int (0 : Int32)), .val (.int (1 : Int32)), .unset, .unset, .unset, .unset, .unset, .unset, .unset, .unset]) rfl ?_
        show Steps p.tables e below (T2.setTop (mkF m 34 #[.val (.int fl), .val (.long ka), .second, .val (.long kb), .second, .val (.long kc), .second, .val (.ref sv), .val (.int (1 : Int32)), .val (.int (0 : Int32)), .val (.int (1 : Int32)), .unset, .unset, .unset, .unset, .unset, .unset, .unset, .unset] [])) tgt
        refine XS.aload X2.here hx rfl (hb hby at_34) rfl rfl ?_
        show Steps p.tables e below (T2.setTop (mkF m 36 #[.val (.int fl), .val (.long ka), .second, .val (.long kb), .second, .val (.long kc), .second, .val (.ref sv), .val (.int (1 : Int32)), .val (.int (0 : Int32)), .val (.int (1 : Int32)), .unset, .unset, .unset, .unset, .unset, .unset, .unset, .unset] [(.ref sv)])) tgt
        refine XS.iconst X2.here hx rfl (hb hby at_36) ?_
        show Steps p.tables e below (T2.setTop (mkF m 37 #[.val (.int fl), .val (.long ka), .second, .val (.long kb), .second, .val (.long kc), .second, .val (.ref sv), .val (.int (1 : Int32)), .val (.int (0 : Int32)), .val (.int (1 : Int32)), .unset, .unset, .unset, .unset, .unset, .unset, .unset, .unset] [(.int (0 : Int32)), (.ref sv)])) tgt
        refine XS.iload X2.here hx rfl (hb hby at_37) rfl ?_
        show Steps p.tables e below (T2.setTop (mkF m 39 #[.val (.int fl), .val (.long ka), .second, .val (.long kb), .second, .val (.long kc), .second, .val (.ref sv), .val (.int (1 : Int32)), .val (.int (0 : Int32)), .val (.int (1 : Int32)), .unset, .unset, .unset, .unset, .unset, .unset, .unset, .unset] [(.int (1 : Int32)), (.int (0 : Int32)), (.ref sv)])) tgt
        refine XS.lloadN X2.here hx rfl (hb hby at_39) rfl ?_
        exact k
      obtain ⟨cq40, kq40, q40a, q40b, q40c⟩ := isOf hZ rfl g2_9
      obtain ⟨v40, _, ⟨T40, L40, k40, n40⟩, -, Xc40, ⟨Lc40, hQ40, l40, y40, z40⟩, st40⟩ := X2.virtualBack hx (y := (⟨"com/example/chainwright/chainwright/KeySort", "put", "(IIJ)V"⟩ : MethodName)) (z := (⟨"com/example/chainwright/chainwright/KeySort", "put", "(IIJ)V"⟩ : MethodName)) hown (mvT hZ (hw _ (List.mem_of_getElem? (i := 17) rfl))) (mvT hZ (hw _ (List.mem_of_getElem? (i := 18) rfl))) (notFace_of_selects (args := #[]) (mvT hZ (hw _ (List.mem_of_getElem? (i := 20) rfl)))) (mvT hZ (hw _ (List.mem_of_getElem? (i := 20) rfl))) (mvT hZ (hw _ (List.mem_of_getElem? (i := 19) rfl))) (by decide) (backOf (W := 0) (rm3 l Z a0 hw [] sv (0 : Int32) (1 : Int32) ka nu_2 ke_2 (fun _ => 0) (fun _ => 0) 0 1 T2.heap n0 Zs2 g2_10 g2_11 g2_13 g2_14 g2_3 g2_4 g2_6 ne_sv_nu_2 ne_sv_ke_2 (by decide) (by decide) (by decide) (by decide)) hZ (hw _ (List.mem_of_getElem? (i := 21) rfl)) (hw _ (List.mem_of_getElem? (i := 2) rfl)) (by decide) (by decide)) q40a q40c (g := (mkF m 40 #[.val (.int fl), .val (.long ka), .second, .val (.long kb), .second, .val (.long kc), .second, .val (.ref sv), .val (.int (1 : Int32)), .val (.int (0 : Int32)), .val (.int (1 : Int32)), .unset, .unset, .unset, .unset, .unset, .unset, .unset, .unset] [(.long ka), (.int (1 : Int32)), (.int (0 : Int32)), (.ref sv)])) rfl (by rw [hml]; rfl) (Steps.refl _) (argsL := [(.int (0 : Int32)), (.int (1 : Int32)), (.long ka)]) (rest := []) (lenOf pd_0_1 rfl) rfl (by show 2 * 0 + _ ≤ _; exact Nat.le_of_eq rfl) (hb hby at_40) (fun _ _ => ⟨rfl, rfl, (by decide : 4 + 0 ≤ _), (by decide : 9 + 0 ≤ _)⟩)
      dsimp only [Pt.U, Pt.locs, Pt.cells, Pt.slots] at Xc40 l40 y40 z40 st40 hQ40
      have X40 := own_cast Xc40 l40 y40 z40
      obtain ⟨ev40, N40q, K40, g40_0, g40_1⟩ := hQ40
      rw [ev40] at st40
      have N40 := Fr.app N2 N40q
      have E_sv_40 := g2_9.keep K40
      have F_sv_numbers_40 := g2_10.keep K40 (ninS ne_sv_nu_2 (ninS ne_sv_ke_2 nin0))
      have F_sv_keys_40 := g2_11.keep K40 (ninS ne_sv_nu_2 (ninS ne_sv_ke_2 nin0))
      have F_sv_room_40 := g2_12.keep K40 (ninS ne_sv_nu_2 (ninS ne_sv_ke_2 nin0))
      have A_ro_2_40 := g2_15.keep K40 (ninS (Ne.symm g2_7) (ninS (Ne.symm g2_8) nin0))
      have Zs40 : n0 ≤ T40.heap.size := Nat.le_trans Zs2 K40.1
      refine own_st (fun tgt k => st40.trans k) ?_
      show own_Go p e below _ (T40.setTop (mkF m 43 #[.val (.int fl), .val (.long ka), .second, .val (.long kb), .second, .val (.long kc), .second, .val (.ref sv), .val (.int (1 : Int32)), .val (.int (0 : Int32)), .val (.int (1 : Int32)), .unset, .unset, .unset, .unset, .unset, .unset, .unset, .unset] []))
      refine own_st (V := T40.setTop (mkF m 49 #[.val (.int fl), .val (.long ka), .second, .val (.long kb), .second, .val (.long kc), .second, .val (.ref sv), .val (.int (1 : Int32)), .val (.int (0 : Int32)), .val (.int (1 : Int32)), .unset, .unset, .unset, .unset, .unset, .unset, .unset, .unset] [(.long kb), (.int (0 : Int32)), (.int (1 : Int32)), (.ref sv)])) (fun tgt k => ?_) ?_
      · show Steps p.tables e below (T40.setTop (mkF m 43 #[.val (.int fl), .val (.long ka), .second, .val (.long kb), .second, .val (.long kc), .second, .val (.ref sv), .val (.int (1 : Int32)), .val (.int (0 : Int32)), .val (.int (1 : Int32)), .unset, .unset, .unset, .unset, .unset, .unset, .unset, .unset] [])) tgt
        refine XS.aload X40.here hx rfl (hb hby at_43) rfl rfl ?_
        show Steps p.tables e below (T40.setTop (mkF m 45 #[.val (.int fl), .val (.long ka), .second, .val (.long kb), .second, .val (.long kc), .second, .val (.ref sv), .val (.int (1 : Int32)), .val (.int (0 : Int32)), .val (.int (1 : Int32)), .unset, .unset, .unset, .unset, .unset, .unset, .unset, .unset] [(.ref sv)])) tgt
        refine XS.iconst X40.here hx rfl (hb hby at_45) ?_
        show Steps p.tables e below (T40.setTop (mkF m 46 #[.val (.int fl), .val (.long ka), .second, .val (.long kb), .second, .val (.long kc), .second, .val (.ref sv), .val (.int (1 : Int32)), .val (.int (0 : Int32)), .val (.int (1 : Int32)), .unset, .unset, .unset, .unset, .unset, .unset, .unset, .unset] [(.int (1 : Int32)), (.ref sv)])) tgt
        refine XS.iload X40.here hx rfl (hb hby at_46) rfl ?_
        show Steps p.tables e below (T40.setTop (mkF m 48 #[.val (.int fl), .val (.long ka), .second, .val (.long kb), .second, .val (.long kc), .second, .val (.ref sv), .val (.int (1 : Int32)), .val (.int (0 : Int32)), .val (.int (1 : Int32)), .unset, .unset, .unset, .unset, .unset, .unset, .unset, .unset] [(.int (0 : Int32)), (.int (1 : Int32)), (.ref sv)])) tgt
        refine XS.lloadN X40.here hx rfl (hb hby at_48) rfl ?_
        exact k
      obtain ⟨cq41, kq41, q41a, q41b, q41c⟩ := isOf hZ rfl E_sv_40
      obtain ⟨v41, _, ⟨T41, L41, k41, n41⟩, -, Xc41, ⟨Lc41, hQ41, l41, y41, z41⟩, st41⟩ := X40.virtualBack hx (y := (⟨"com/example/chainwright/chainwright/KeySort", "put", "(IIJ)V"⟩ : MethodName)) (z := (⟨"com/example/chainwright/chainwright/KeySort", "put", "(IIJ)V"⟩ : MethodName)) hown (mvT hZ (hw _ (List.mem_of_getElem? (i := 17) rfl))) (mvT hZ (hw _ (List.mem_of_getElem? (i := 18) rfl))) (notFace_of_selects (args := #[]) (mvT hZ (hw _ (List.mem_of_getElem? (i := 20) rfl)))) (mvT hZ (hw _ (List.mem_of_getElem? (i := 20) rfl))) (mvT hZ (hw _ (List.mem_of_getElem? (i := 19) rfl))) (by decide) (backOf (W := 0) (rm3 l Z a0 hw [] sv (1 : Int32) (0 : Int32) kb nu_2 ke_2 (own_up (fun _ => 0) 0 (1 : Int32)) (own_upJ (fun _ => 0) 1 ka) 1 0 T40.heap n0 Zs40 F_sv_numbers_40 F_sv_keys_40 g40_0 g40_1 g2_3 g2_4 g2_6 ne_sv_nu_2 ne_sv_ke_2 (by decide) (by decide) (by decide) (by decide)) hZ (hw _ (List.mem_of_getElem? (i := 21) rfl)) (hw _ (List.mem_of_getElem? (i := 2) rfl)) (by decide) (by decide)) q41a q41c (g := (mkF m 49 #[.val (.int fl), .val (.long ka), .second, .val (.long kb), .second, .val (.long kc), .second, .val (.ref sv), .val (.int (1 : Int32)), .val (.int (0 : Int32)), .val (.int (1 : Int32)), .unset, .unset, .unset, .unset, .unset, .unset, .unset, .unset] [(.long kb), (.int (0 : Int32)), (.int (1 : Int32)), (.ref sv)])) rfl (by rw [hml]; rfl) (Steps.refl _) (argsL := [(.int (1 : Int32)), (.int (0 : Int32)), (.long kb)]) (rest := []) (lenOf pd_0_1 rfl) rfl (by show 2 * 0 + _ ≤ _; exact Nat.le_of_eq rfl) (hb hby at_49) (fun _ _ => ⟨rfl, rfl, (by decide : 4 + 0 ≤ _), (by decide : 9 + 0 ≤ _)⟩)
      dsimp only [Pt.U, Pt.locs, Pt.cells, Pt.slots] at Xc41 l41 y41 z41 st41 hQ41
      have X41 := own_cast Xc41 l41 y41 z41
      obtain ⟨ev41, N41q, K41, g41_0, g41_1⟩ := hQ41
      rw [ev41] at st41
      have N41 := Fr.app N40 N41q
      have E_sv_41 := E_sv_40.keep K41
      have F_sv_numbers_41 := F_sv_numbers_40.keep K41 (ninS ne_sv_nu_2 (ninS ne_sv_ke_2 nin0))
      have F_sv_keys_41 := F_sv_keys_40.keep K41 (ninS ne_sv_nu_2 (ninS ne_sv_ke_2 nin0))
      have F_sv_room_41 := F_sv_room_40.keep K41 (ninS ne_sv_nu_2 (ninS ne_sv_ke_2 nin0))
      have A_ro_2_41 := A_ro_2_40.keep K41 (ninS (Ne.symm g2_7) (ninS (Ne.symm g2_8) nin0))
      have Zs41 : n0 ≤ T41.heap.size := Nat.le_trans Zs40 K41.1
      refine own_st (fun tgt k => st41.trans k) ?_
      show own_Go p e below _ (T41.setTop (mkF m 52 #[.val (.int fl), .val (.long ka), .second, .val (.long kb), .second, .val (.long kc), .second, .val (.ref sv), .val (.int (1 : Int32)), .val (.int (0 : Int32)), .val (.int (1 : Int32)), .unset, .unset, .unset, .unset, .unset, .unset, .unset, .unset] []))
      refine own_st (V := T41.setTop (mkF m 67 #[.val (.int fl), .val (.long ka), .second, .val (.long kb), .second, .val (.long kc), .second, .val (.ref sv), .val (.int (1 : Int32)), .val (.int (0 : Int32)), .val (.int (1 : Int32)), .val (.long ka), .second, .unset, .unset, .unset, .unset, .unset, .unset] [(.long kc), (.int (1 : Int32)), (.int (0 : Int32)), (.ref sv)])) (fun tgt k => ?_) ?_
      · show Steps p.tables e below (T41.setTop (mkF m 52 #[.val (.int fl), .val (.long ka), .second, .val (.long kb), .second, .val (.long kc), .second, .val (.ref sv), .val (.int (1 : Int32)), .val (.int (0 : Int32)), .val (.int (1 : Int32)), .unset, .unset, .unset, .unset, .unset, .unset, .unset, .unset] [])) tgt
        refine XS.lloadN X41.here hx rfl (hb hby at_52) rfl ?_
        show Steps p.tables e below (T41.setTop (mkF m 53 #[.val (.int fl), .val (.long ka), .second, .val (.long kb), .second, .val (.long kc), .second, .val (.ref sv), .val (.int (1 : Int32)), .val (.int (0 : Int32)), .val (.int (1 : Int32)), .unset, .unset, .unset, .unset, .unset, .unset, .unset, .unset] [(.long ka)])) tgt
        refine XS.lstore X41.here hx rfl (hb hby at_53) rfl (l' := #[.val (.int fl), .val (.long ka), .second, .val (.long kb), .second, .val (.long kc), .second, .val (.ref sv), .val (.int (1 : Int32)), .val (.int (0 : Int32)), .val (.int (1 : Int32)), .val (.long ka), .second, .unset, .unset, .unset, .unset, .unset, .unset]) rfl ?_
        show Steps p.tables e below (T41.setTop (mkF m 55 #[.val (.int fl), .val (.long ka), .second, .val (.long kb), .second, .val (.long kc), .second, .val (.ref sv), .val (.int (1 : Int32)), .val (.int (0 : Int32)), .val (.int (1 : Int32)), .val (.long ka), .second, .unset, .unset, .unset, .unset, .unset, .unset] [])) tgt
        refine XS.iload X41.here hx rfl (hb hby at_55) rfl ?_
        show Steps p.tables e below (T41.setTop (mkF m 57 #[.val (.int fl), .val (.long ka), .second, .val (.long kb), .second, .val (.long kc), .second, .val (.ref sv), .val (.int (1 : Int32)), .val (.int (0 : Int32)), .val (.int (1 : Int32)), .val (.long ka), .second, .unset, .unset, .unset, .unset, .unset, .unset] [(.int (1 : Int32))])) tgt
        refine XS.ifNo X41.here hx rfl (hb hby at_57) rfl ((if0 _ _).trans (feq (by decide : ¬ ((1 : Int32) = (0 : Int32)))).1) ?_
        show Steps p.tables e below (T41.setTop (mkF m 60 #[.val (.int fl), .val (.long ka), .second, .val (.long kb), .second, .val (.long kc), .second, .val (.ref sv), .val (.int (1 : Int32)), .val (.int (0 : Int32)), .val (.int (1 : Int32)), .val (.long ka), .second, .unset, .unset, .unset, .unset, .unset, .unset] [])) tgt
        refine XS.aload X41.here hx rfl (hb hby at_60) rfl rfl ?_
        show Steps p.tables e below (T41.setTop (mkF m 62 #[.val (.int fl), .val (.long ka), .second, .val (.long kb), .second, .val (.long kc), .second, .val (.ref sv), .val (.int (1 : Int32)), .val (.int (0 : Int32)), .val (.int (1 : Int32)), .val (.long ka), .second, .unset, .unset, .unset, .unset, .unset, .unset] [(.ref sv)])) tgt
        refine XS.iconst X41.here hx rfl (hb hby at_62) ?_
        show Steps p.tables e below (T41.setTop (mkF m 63 #[.val (.int fl), .val (.long ka), .second, .val (.long kb), .second, .val (.long kc), .second, .val (.ref sv), .val (.int (1 : Int32)), .val (.int (0 : Int32)), .val (.int (1 : Int32)), .val (.long ka), .second, .unset, .unset, .unset, .unset, .unset, .unset] [(.int (0 : Int32)), (.ref sv)])) tgt
        refine XS.iload X41.here hx rfl (hb hby at_63) rfl ?_
        show Steps p.tables e below (T41.setTop (mkF m 65 #[.val (.int fl), .val (.long ka), .second, .val (.long kb), .second, .val (.long kc), .second, .val (.ref sv), .val (.int (1 : Int32)), .val (.int (0 : Int32)), .val (.int (1 : Int32)), .val (.long ka), .second, .unset, .unset, .unset, .unset, .unset, .unset] [(.int (1 : Int32)), (.int (0 : Int32)), (.ref sv)])) tgt
        refine XS.lload X41.here hx rfl (hb hby at_65) rfl ?_
        exact k
      obtain ⟨cq42, kq42, q42a, q42b, q42c⟩ := isOf hZ rfl E_sv_41
      obtain ⟨v42, _, ⟨T42, L42, k42, n42⟩, -, Xc42, ⟨Lc42, hQ42, l42, y42, z42⟩, st42⟩ := X41.virtualBack hx (y := (⟨"com/example/chainwright/chainwright/KeySort", "put", "(IIJ)V"⟩ : MethodName)) (z := (⟨"com/example/chainwright/chainwright/KeySort", "put", "(IIJ)V"⟩ : MethodName)) hown (mvT hZ (hw _ (List.mem_of_getElem? (i := 17) rfl))) (mvT hZ (hw _ (List.mem_of_getElem? (i := 18) rfl))) (notFace_of_selects (args := #[]) (mvT hZ (hw _ (List.mem_of_getElem? (i := 20) rfl)))) (mvT hZ (hw _ (List.mem_of_getElem? (i := 20) rfl))) (mvT hZ (hw _ (List.mem_of_getElem? (i := 19) rfl))) (by decide) (backOf (W := 0) (rm3 l Z a0 hw [] sv (0 : Int32) (1 : Int32) kc nu_2 ke_2 (own_up (own_up (fun _ => 0) 0 (1 : Int32)) 1 (0 : Int32)) (own_upJ (own_upJ (fun _ => 0) 1 ka) 0 kb) 0 1 T41.heap n0 Zs41 F_sv_numbers_41 F_sv_keys_41 g41_0 g41_1 g2_3 g2_4 g2_6 ne_sv_nu_2 ne_sv_ke_2 (by decide) (by decide) (by decide) (by decide)) hZ (hw _ (List.mem_of_getElem? (i := 21) rfl)) (hw _ (List.mem_of_getElem? (i := 2) rfl)) (by decide) (by decide)) q42a q42c (g := (mkF m 67 #[.val (.int fl), .val (.long ka), .second, .val (.long kb), .second, .val (.long kc), .second, .val (.ref sv), .val (.int (1 : Int32)), .val (.int (0 : Int32)), .val (.int (1 : Int32)), .val (.long ka), .second, .unset, .unset, .unset, .unset, .unset, .unset] [(.long kc), (.int (1 : Int32)), (.int (0 : Int32)), (.ref sv)])) rfl (by rw [hml]; rfl) (Steps.refl _) (argsL := [(.int (0 : Int32)), (.int (1 : Int32)), (.long kc)]) (rest := []) (lenOf pd_0_1 rfl) rfl (by show 2 * 0 + _ ≤ _; exact Nat.le_of_eq rfl) (hb hby at_67) (fun _ _ => ⟨rfl, rfl, (by decide : 4 + 0 ≤ _), (by decide : 9 + 0 ≤ _)⟩)
      dsimp only [Pt.U, Pt.locs, Pt.cells, Pt.slots] at Xc42 l42 y42 z42 st42 hQ42
      have X42 := own_cast Xc42 l42 y42 z42
      obtain ⟨ev42, N42q, K42, g42_0, g42_1⟩ := hQ42
      rw [ev42] at st42
      have N42 := Fr.app N41 N42q
      have E_sv_42 := E_sv_41.keep K42
      have F_sv_numbers_42 := F_sv_numbers_41.keep K42 (ninS ne_sv_nu_2 (ninS ne_sv_ke_2 nin0))
      have F_sv_keys_42 := F_sv_keys_41.keep K42 (ninS ne_sv_nu_2 (ninS ne_sv_ke_2 nin0))
      have F_sv_room_42 := F_sv_room_41.keep K42 (ninS ne_sv_nu_2 (ninS ne_sv_ke_2 nin0))
      have A_ro_2_42 := A_ro_2_41.keep K42 (ninS (Ne.symm g2_7) (ninS (Ne.symm g2_8) nin0))
      have Zs42 : n0 ≤ T42.heap.size := Nat.le_trans Zs41 K42.1
      refine own_st (fun tgt k => st42.trans k) ?_
      show own_Go p e below _ (T42.setTop (mkF m 70 #[.val (.int fl), .val (.long ka), .second, .val (.long kb), .second, .val (.long kc), .second, .val (.ref sv), .val (.int (1 : Int32)), .val (.int (0 : Int32)), .val (.int (1 : Int32)), .val (.long ka), .second, .unset, .unset, .unset, .unset, .unset, .unset] []))
      refine own_st (V := T42.setTop (mkF m 77 #[.val (.int fl), .val (.long ka), .second, .val (.long kb), .second, .val (.long kc), .second, .val (.ref sv), .val (.int (1 : Int32)), .val (.int (0 : Int32)), .val (.int (1 : Int32)), .val (.long kc), .second, .unset, .unset, .unset, .unset, .unset, .unset] [(.int (0 : Int32)), (.ref sv)])) (fun tgt k => ?_) ?_
      · show Steps p.tables e below (T42.setTop (mkF m 70 #[.val (.int fl), .val (.long ka), .second, .val (.long kb), .second, .val (.long kc), .second, .val (.ref sv), .val (.int (1 : Int32)), .val (.int (0 : Int32)), .val (.int (1 : Int32)), .val (.long ka), .second, .unset, .unset, .unset, .unset, .unset, .unset] [])) tgt
        refine XS.lload X42.here hx rfl (hb hby at_70) rfl ?_
        show Steps p.tables e below (T42.setTop (mkF m 72 #[.val (.int fl), .val (.long ka), .second, .val (.long kb), .second, .val (.long kc), .second, .val (.ref sv), .val (.int (1 : Int32)), .val (.int (0 : Int32)), .val (.int (1 : Int32)), .val (.long ka), .second, .unset, .unset, .unset, .unset, .unset, .unset] [(.long kc)])) tgt
        refine XS.lstore X42.here hx rfl (hb hby at_72) rfl (l' := #[.val (.int fl), .val (.long ka), .second, .val (.long kb), .second, .val (.long kc), .second, .val (.ref sv), .val (.int (1 : Int32)), .val (.int (0 : Int32)), .val (.int (1 : Int32)), .val (.long kc), .second, .unset, .unset, .unset, .unset, .unset, .unset]) rfl ?_
        show Steps p.tables e below (T42.setTop (mkF m 74 #[.val (.int fl), .val (.long ka), .second, .val (.long kb), .second, .val (.long kc), .second, .val (.ref sv), .val (.int (1 : Int32)), .val (.int (0 : Int32)), .val (.int (1 : Int32)), .val (.long kc), .second, .unset, .unset, .unset, .unset, .unset, .unset] [])) tgt
        refine XS.aload X42.here hx rfl (hb hby at_74) rfl rfl ?_
        show Steps p.tables e below (T42.setTop (mkF m 76 #[.val (.int fl), .val (.long ka), .second, .val (.long kb), .second, .val (.long kc), .second, .val (.ref sv), .val (.int (1 : Int32)), .val (.int (0 : Int32)), .val (.int (1 : Int32)), .val (.long kc), .second, .unset, .unset, .unset, .unset, .unset, .unset] [(.ref sv)])) tgt
        refine XS.iconst X42.here hx rfl (hb hby at_76) ?_
        exact k
      obtain ⟨cq43, kq43, q43a, q43b, q43c⟩ := isOf hZ rfl E_sv_42
      obtain ⟨v43, _, ⟨T43, L43, k43, n43⟩, -, Xc43, ⟨Lc43, hQ43, l43, y43, z43⟩, st43⟩ := X42.virtualBack hx (y := (⟨"com/example/chainwright/chainwright/KeySort", "number", "(I)I"⟩ : MethodName)) (z := (⟨"com/example/chainwright/chainwright/KeySort", "number", "(I)I"⟩ : MethodName)) hown (mvT hZ (hw _ (List.mem_of_getElem? (i := 22) rfl))) (mvT hZ (hw _ (List.mem_of_getElem? (i := 23) rfl))) (notFace_of_selects (args := #[]) (mvT hZ (hw _ (List.mem_of_getElem? (i := 25) rfl)))) (mvT hZ (hw _ (List.mem_of_getElem? (i := 25) rfl))) (mvT hZ (hw _ (List.mem_of_getElem? (i := 24) rfl))) (by decide) (backOf (W := 0) (rm4 l Z a0 hw [] sv (0 : Int32) nu_2 (own_up (own_up (own_up (fun _ => 0) 0 (1 : Int32)) 1 (0 : Int32)) 0 (1 : Int32)) 0 T42.heap n0 Zs42 F_sv_numbers_42 g42_0 (by decide) (by decide)) hZ (hw _ (List.mem_of_getElem? (i := 26) rfl)) (hw _ (List.mem_of_getElem? (i := 2) rfl)) (by decide) (by decide)) q43a q43c (g := (mkF m 77 #[.val (.int fl), .val (.long ka), .second, .val (.long kb), .second, .val (.long kc), .second, .val (.ref sv), .val (.int (1 : Int32)), .val (.int (0 : Int32)), .val (.int (1 : Int32)), .val (.long kc), .second, .unset, .unset, .unset, .unset, .unset, .unset] [(.int (0 : Int32)), (.ref sv)])) rfl (by rw [hml]; rfl) (Steps.refl _) (argsL := [(.int (0 : Int32))]) (rest := []) (lenOf pd_0_2 rfl) rfl (by show 2 * 0 + _ ≤ _; exact Nat.le_of_eq rfl) (hb hby at_77) (fun _ _ => ⟨rfl, rfl, (by decide : 4 + 0 ≤ _), (by decide : 9 + 0 ≤ _)⟩)
      dsimp only [Pt.U, Pt.locs, Pt.cells, Pt.slots] at Xc43 l43 y43 z43 st43 hQ43
      have X43 := own_cast Xc43 l43 y43 z43
      obtain ⟨ev43, N43q, K43⟩ := hQ43
      rw [ev43] at st43
      have N43 := Fr.app N42 N43q
      refine own_st (fun tgt k => st43.trans k) ?_
      show own_Go p e below _ (T43.setTop (mkF m 80 #[.val (.int fl), .val (.long ka), .second, .val (.long kb), .second, .val (.long kc), .second, .val (.ref sv), .val (.int (1 : Int32)), .val (.int (0 : Int32)), .val (.int (1 : Int32)), .val (.long kc), .second, .unset, .unset, .unset, .unset, .unset, .unset] [(.int ((own_up (own_up (own_up (fun _ => 0) 0 (1 : Int32)) 1 (0 : Int32)) 0 (1 : Int32)) 0))]))
      refine own_st (V := T43.setTop (mkF m 88 #[.val (.int fl), .val (.long ka), .second, .val (.long kb), .second, .val (.long kc), .second, .val (.ref sv), .val (.int (1 : Int32)), .val (.int (0 : Int32)), .val (.int (1 : Int32)), .val (.long kc), .second, .unset, .unset, .unset, .unset, .unset, .unset] [(.int (1 : Int32)), (.ref sv)])) (fun tgt k => ?_) ?_
      · show Steps p.tables e below (T43.setTop (mkF m 80 #[.val (.int fl), .val (.long ka), .second, .val (.long kb), .second, .val (.long kc), .second, .val (.ref sv), .val (.int (1 : Int32)), .val (.int (0 : Int32)), .val (.int (1 : Int32)), .val (.long kc), .second, .unset, .unset, .unset, .unset, .unset, .unset] [(.int ((own_up (own_up (own_up (fun _ => 0) 0 (1 : Int32)) 1 (0 : Int32)) 0 (1 : Int32)) 0))])) tgt
        refine XS.iload X43.here hx rfl (hb hby at_80) rfl ?_
        show Steps p.tables e below (T43.setTop (mkF m 82 #[.val (.int fl), .val (.long ka), .second, .val (.long kb), .second, .val (.long kc), .second, .val (.ref sv), .val (.int (1 : Int32)), .val (.int (0 : Int32)), .val (.int (1 : Int32)), .val (.long kc), .second, .unset, .unset, .unset, .unset, .unset, .unset] [(.int (1 : Int32)), (.int ((own_up (own_up (own_up (fun _ => 0) 0 (1 : Int32)) 1 (0 : Int32)) 0 (1 : Int32)) 0))])) tgt
        refine XS.icmpNo X43.here hx rfl (hb hby at_82) rfl (teq (by decide)).2 ?_
        show Steps p.tables e below (T43.setTop (mkF m 85 #[.val (.int fl), .val (.long ka), .second, .val (.long kb), .second, .val (.long kc), .second, .val (.ref sv), .val (.int (1 : Int32)), .val (.int (0 : Int32)), .val (.int (1 : Int32)), .val (.long kc), .second, .unset, .unset, .unset, .unset, .unset, .unset] [])) tgt
        refine XS.aload X43.here hx rfl (hb hby at_85) rfl rfl ?_
        show Steps p.tables e below (T43.setTop (mkF m 87 #[.val (.int fl), .val (.long ka), .second, .val (.long kb), .second, .val (.long kc), .second, .val (.ref sv), .val (.int (1 : Int32)), .val (.int (0 : Int32)), .val (.int (1 : Int32)), .val (.long kc), .second, .unset, .unset, .unset, .unset, .unset, .unset] [(.ref sv)])) tgt
        refine XS.iconst X43.here hx rfl (hb hby at_87) ?_
        exact k
      obtain ⟨cq44, kq44, q44a, q44b, q44c⟩ := isOf hZ K43 E_sv_42
      obtain ⟨v44, _, ⟨T44, L44, k44, n44⟩, -, Xc44, ⟨Lc44, hQ44, l44, y44, z44⟩, st44⟩ := X43.virtualBack hx (y := (⟨"com/example/chainwright/chainwright/KeySort", "number", "(I)I"⟩ : MethodName)) (z := (⟨"com/example/chainwright/chainwright/KeySort", "number", "(I)I"⟩ : MethodName)) hown (mvT hZ (hw _ (List.mem_of_getElem? (i := 22) rfl))) (mvT hZ (hw _ (List.mem_of_getElem? (i := 23) rfl))) (notFace_of_selects (args := #[]) (mvT hZ (hw _ (List.mem_of_getElem? (i := 25) rfl)))) (mvT hZ (hw _ (List.mem_of_getElem? (i := 25) rfl))) (mvT hZ (hw _ (List.mem_of_getElem? (i := 24) rfl))) (by decide) (backOf (W := 0) (rm4 l Z a0 hw [] sv (1 : Int32) nu_2 (own_up (own_up (own_up (fun _ => 0) 0 (1 : Int32)) 1 (0 : Int32)) 0 (1 : Int32)) 1 T42.heap n0 Zs42 F_sv_numbers_42 g42_0 (by decide) (by decide)) hZ (hw _ (List.mem_of_getElem? (i := 26) rfl)) (hw _ (List.mem_of_getElem? (i := 2) rfl)) (by decide) (by decide)) q44a q44c (g := (mkF m 88 #[.val (.int fl), .val (.long ka), .second, .val (.long kb), .second, .val (.long kc), .second, .val (.ref sv), .val (.int (1 : Int32)), .val (.int (0 : Int32)), .val (.int (1 : Int32)), .val (.long kc), .second, .unset, .unset, .unset, .unset, .unset, .unset] [(.int (1 : Int32)), (.ref sv)])) rfl (by rw [hml]; rfl) (Steps.refl _) (argsL := [(.int (1 : Int32))]) (rest := []) (lenOf pd_0_2 rfl) rfl (by show 2 * 0 + _ ≤ _; exact Nat.le_of_eq rfl) (hb hby at_88) (fun _ _ => ⟨rfl, K43, (by decide : 4 + 0 ≤ _), (by decide : 9 + 0 ≤ _)⟩)
      dsimp only [Pt.U, Pt.locs, Pt.cells, Pt.slots] at Xc44 l44 y44 z44 st44 hQ44
      have X44 := own_cast Xc44 l44 y44 z44
      obtain ⟨ev44, N44q, K44⟩ := hQ44
      rw [ev44] at st44
      have N44 := Fr.app N43 N44q
      refine own_st (fun tgt k => st44.trans k) ?_
      show own_Go p e below _ (T44.setTop (mkF m 91 #[.val (.int fl), .val (.long ka), .second, .val (.long kb), .second, .val (.long kc), .second, .val (.ref sv), .val (.int (1 : Int32)), .val (.int (0 : Int32)), .val (.int (1 : Int32)), .val (.long kc), .second, .unset, .unset, .unset, .unset, .unset, .unset] [(.int ((own_up (own_up (own_up (fun _ => 0) 0 (1 : Int32)) 1 (0 : Int32)) 0 (1 : Int32)) 1))]))
      refine own_st (V := T44.setTop (mkF m 134 #[.val (.int fl), .val (.long ka), .second, .val (.long kb), .second, .val (.long kc), .second, .val (.ref sv), .val (.int (1 : Int32)), .val (.int (0 : Int32)), .val (.int (1 : Int32)), .val (.long kc), .second, .val (.int (1 : Int32)), .val (.long kb), .second, .val (.long kc), .second, .unset] [(.int (lcmpW kc kb))])) (fun tgt k => ?_) ?_
      · show Steps p.tables e below (T44.setTop (mkF m 91 #[.val (.int fl), .val (.long ka), .second, .val (.long kb), .second, .val (.long kc), .second, .val (.ref sv), .val (.int (1 : Int32)), .val (.int (0 : Int32)), .val (.int (1 : Int32)), .val (.long kc), .second, .unset, .unset, .unset, .unset, .unset, .unset] [(.int ((own_up (own_up (own_up (fun _ => 0) 0 (1 : Int32)) 1 (0 : Int32)) 0 (1 : Int32)) 1))])) tgt
        refine XS.iload X44.here hx rfl (hb hby at_91) rfl ?_
        show Steps p.tables e below (T44.setTop (mkF m 93 #[.val (.int fl), .val (.long ka), .second, .val (.long kb), .second, .val (.long kc), .second, .val (.ref sv), .val (.int (1 : Int32)), .val (.int (0 : Int32)), .val (.int (1 : Int32)), .val (.long kc), .second, .unset, .unset, .unset, .unset, .unset, .unset] [(.int (0 : Int32)), (.int ((own_up (own_up (own_up (fun _ => 0) 0 (1 : Int32)) 1 (0 : Int32)) 0 (1 : Int32)) 1))])) tgt
        refine XS.icmpNo X44.here hx rfl (hb hby at_93) rfl (teq (by decide)).2 ?_
        show Steps p.tables e below (T44.setTop (mkF m 96 #[.val (.int fl), .val (.long ka), .second, .val (.long kb), .second, .val (.long kc), .second, .val (.ref sv), .val (.int (1 : Int32)), .val (.int (0 : Int32)), .val (.int (1 : Int32)), .val (.long kc), .second, .unset, .unset, .unset, .unset, .unset, .unset] [])) tgt
        refine XS.iconst X44.here hx rfl (hb hby at_96) ?_
        show Steps p.tables e below (T44.setTop (mkF m 97 #[.val (.int fl), .val (.long ka), .second, .val (.long kb), .second, .val (.long kc), .second, .val (.ref sv), .val (.int (1 : Int32)), .val (.int (0 : Int32)), .val (.int (1 : Int32)), .val (.long kc), .second, .unset, .unset, .unset, .unset, .unset, .unset] [(.int (1 : Int32))])) tgt
        refine XS.goto X44.here hx rfl (pc0 := 97) (pc' := 101) rfl (hb hby at_97) (by decide) (by decide) ?_
        show Steps p.tables e below (T44.setTop (mkF m 101 #[.val (.int fl), .val (.long ka), .second, .val (.long kb), .second, .val (.long kc), .second, .val (.ref sv), .val (.int (1 : Int32)), .val (.int (0 : Int32)), .val (.int (1 : Int32)), .val (.long kc), .second, .unset, .unset, .unset, .unset, .unset, .unset] [(.int (1 : Int32))])) tgt
        refine XS.istore X44.here hx rfl (hb hby at_101) rfl (l' := #[.val (.int fl), .val (.long ka), .second, .val (.long kb), .second, .val (.long kc), .second, .val (.ref sv), .val (.int (1 : Int32)), .val (.int (0 : Int32)), .val (.int (1 : Int32)), .val (.long kc), .second, .val (.int (1 : Int32)), .unset, .unset, .unset, .unset, .unset]) rfl ?_
        show Steps p.tables e below (T44.setTop (mkF m 103 #[.val (.int fl), .val (.long ka), .second, .val (.long kb), .second, .val (.long kc), .second, .val (.ref sv), .val (.int (1 : Int32)), .val (.int (0 : Int32)), .val (.int (1 : Int32)), .val (.long kc), .second, .val (.int (1 : Int32)), .unset, .unset, .unset, .unset, .unset] [])) tgt
        refine XS.iload X44.here hx rfl (hb hby at_103) rfl ?_
        show Steps p.tables e below (T44.setTop (mkF m 105 #[.val (.int fl), .val (.long ka), .second, .val (.long kb), .second, .val (.long kc), .second, .val (.ref sv), .val (.int (1 : Int32)), .val (.int (0 : Int32)), .val (.int (1 : Int32)), .val (.long kc), .second, .val (.int (1 : Int32)), .unset, .unset, .unset, .unset, .unset] [(.int (1 : Int32))])) tgt
        refine XS.ifYes X44.here hx rfl (pc0 := 105) (pc' := 113) rfl (hb hby at_105) rfl ((if0 _ _).trans (feq (by decide : ¬ ((1 : Int32) = (0 : Int32)))).2) (by decide) (by decide) ?_
        show Steps p.tables e below (T44.setTop (mkF m 113 #[.val (.int fl), .val (.long ka), .second, .val (.long kb), .second, .val (.long kc), .second, .val (.ref sv), .val (.int (1 : Int32)), .val (.int (0 : Int32)), .val (.int (1 : Int32)), .val (.long kc), .second, .val (.int (1 : Int32)), .unset, .unset, .unset, .unset, .unset] [])) tgt
        refine XS.lloadN X44.here hx rfl (hb hby at_113) rfl ?_
        show Steps p.tables e below (T44.setTop (mkF m 114 #[.val (.int fl), .val (.long ka), .second, .val (.long kb), .second, .val (.long kc), .second, .val (.ref sv), .val (.int (1 : Int32)), .val (.int (0 : Int32)), .val (.int (1 : Int32)), .val (.long kc), .second, .val (.int (1 : Int32)), .unset, .unset, .unset, .unset, .unset] [(.long kb)])) tgt
        refine XS.lstore X44.here hx rfl (hb hby at_114) rfl (l' := #[.val (.int fl), .val (.long ka), .second, .val (.long kb), .second, .val (.long kc), .second, .val (.ref sv), .val (.int (1 : Int32)), .val (.int (0 : Int32)), .val (.int (1 : Int32)), .val (.long kc), .second, .val (.int (1 : Int32)), .val (.long kb), .second, .unset, .unset, .unset]) rfl ?_
        show Steps p.tables e below (T44.setTop (mkF m 116 #[.val (.int fl), .val (.long ka), .second, .val (.long kb), .second, .val (.long kc), .second, .val (.ref sv), .val (.int (1 : Int32)), .val (.int (0 : Int32)), .val (.int (1 : Int32)), .val (.long kc), .second, .val (.int (1 : Int32)), .val (.long kb), .second, .unset, .unset, .unset] [])) tgt
        refine XS.iload X44.here hx rfl (hb hby at_116) rfl ?_
        show Steps p.tables e below (T44.setTop (mkF m 118 #[.val (.int fl), .val (.long ka), .second, .val (.long kb), .second, .val (.long kc), .second, .val (.ref sv), .val (.int (1 : Int32)), .val (.int (0 : Int32)), .val (.int (1 : Int32)), .val (.long kc), .second, .val (.int (1 : Int32)), .val (.long kb), .second, .unset, .unset, .unset] [(.int (1 : Int32))])) tgt
        refine XS.ifYes X44.here hx rfl (pc0 := 118) (pc' := 125) rfl (hb hby at_118) rfl ((if0 _ _).trans (feq (by decide : ¬ ((1 : Int32) = (0 : Int32)))).2) (by decide) (by decide) ?_
        show Steps p.tables e below (T44.setTop (mkF m 125 #[.val (.int fl), .val (.long ka), .second, .val (.long kb), .second, .val (.long kc), .second, .val (.ref sv), .val (.int (1 : Int32)), .val (.int (0 : Int32)), .val (.int (1 : Int32)), .val (.long kc), .second, .val (.int (1 : Int32)), .val (.long kb), .second, .unset, .unset, .unset] [])) tgt
        refine XS.lload X44.here hx rfl (hb hby at_125) rfl ?_
        show Steps p.tables e below (T44.setTop (mkF m 127 #[.val (.int fl), .val (.long ka), .second, .val (.long kb), .second, .val (.long kc), .second, .val (.ref sv), .val (.int (1 : Int32)), .val (.int (0 : Int32)), .val (.int (1 : Int32)), .val (.long kc), .second, .val (.int (1 : Int32)), .val (.long kb), .second, .unset, .unset, .unset] [(.long kc)])) tgt
        refine XS.lstore X44.here hx rfl (hb hby at_127) rfl (l' := #[.val (.int fl), .val (.long ka), .second, .val (.long kb), .second, .val (.long kc), .second, .val (.ref sv), .val (.int (1 : Int32)), .val (.int (0 : Int32)), .val (.int (1 : Int32)), .val (.long kc), .second, .val (.int (1 : Int32)), .val (.long kb), .second, .val (.long kc), .second, .unset]) rfl ?_
        show Steps p.tables e below (T44.setTop (mkF m 129 #[.val (.int fl), .val (.long ka), .second, .val (.long kb), .second, .val (.long kc), .second, .val (.ref sv), .val (.int (1 : Int32)), .val (.int (0 : Int32)), .val (.int (1 : Int32)), .val (.long kc), .second, .val (.int (1 : Int32)), .val (.long kb), .second, .val (.long kc), .second, .unset] [])) tgt
        refine XS.lload X44.here hx rfl (hb hby at_129) rfl ?_
        show Steps p.tables e below (T44.setTop (mkF m 131 #[.val (.int fl), .val (.long ka), .second, .val (.long kb), .second, .val (.long kc), .second, .val (.ref sv), .val (.int (1 : Int32)), .val (.int (0 : Int32)), .val (.int (1 : Int32)), .val (.long kc), .second, .val (.int (1 : Int32)), .val (.long kb), .second, .val (.long kc), .second, .unset] [(.long kc)])) tgt
        refine XS.lload X44.here hx rfl (hb hby at_131) rfl ?_
        show Steps p.tables e below (T44.setTop (mkF m 133 #[.val (.int fl), .val (.long ka), .second, .val (.long kb), .second, .val (.long kc), .second, .val (.ref sv), .val (.int (1 : Int32)), .val (.int (0 : Int32)), .val (.int (1 : Int32)), .val (.long kc), .second, .val (.int (1 : Int32)), .val (.long kb), .second, .val (.long kc), .second, .unset] [(.long kb), (.long kc)])) tgt
        refine XS.lcmp X44.here hx rfl (hb hby at_133) rfl ?_
        exact k
      by_cases hc134 : kc < kb
      · skip
        refine own_st (V := T44.setTop (mkF m 147 #[.val (.int fl), .val (.long ka), .second, .val (.long kb), .second, .val (.long kc), .second, .val (.ref sv), .val (.int (1 : Int32)), .val (.int (0 : Int32)), .val (.int (1 : Int32)), .val (.long kc), .second, .val (.int (1 : Int32)), .val (.long kb), .second, .val (.long kc), .second, .val (.int (1 : Int32))] [(.int (2 : Int32)), (.ref sv)])) (fun tgt k => ?_) ?_
        · show Steps p.tables e below (T44.setTop (mkF m 134 #[.val (.int fl), .val (.long ka), .second, .val (.long kb), .second, .val (.long kc), .second, .val (.ref sv), .val (.int (1 : Int32)), .val (.int (0 : Int32)), .val (.int (1 : Int32)), .val (.long kc), .second, .val (.int (1 : Int32)), .val (.long kb), .second, .val (.long kc), .second, .unset] [(.int (lcmpW kc kb))])) tgt
          refine XS.ifNo X44.here hx rfl (hb hby at_134) rfl ((if0 _ _).trans (tlt ((lw_lt kc kb).mpr hc134)).2.1) ?_
          show Steps p.tables e below (T44.setTop (mkF m 137 #[.val (.int fl), .val (.long ka), .second, .val (.long kb), .second, .val (.long kc), .second, .val (.ref sv), .val (.int (1 : Int32)), .val (.int (0 : Int32)), .val (.int (1 : Int32)), .val (.long kc), .second, .val (.int (1 : Int32)), .val (.long kb), .second, .val (.long kc), .second, .unset] [])) tgt
          refine XS.iconst X44.here hx rfl (hb hby at_137) ?_
          show Steps p.tables e below (T44.setTop (mkF m 138 #[.val (.int fl), .val (.long ka), .second, .val (.long kb), .second, .val (.long kc), .second, .val (.ref sv), .val (.int (1 : Int32)), .val (.int (0 : Int32)), .val (.int (1 : Int32)), .val (.long kc), .second, .val (.int (1 : Int32)), .val (.long kb), .second, .val (.long kc), .second, .unset] [(.int (1 : Int32))])) tgt
          refine XS.goto X44.here hx rfl (pc0 := 138) (pc' := 142) rfl (hb hby at_138) (by decide) (by decide) ?_
          show Steps p.tables e below (T44.setTop (mkF m 142 #[.val (.int fl), .val (.long ka), .second, .val (.long kb), .second, .val (.long kc), .second, .val (.ref sv), .val (.int (1 : Int32)), .val (.int (0 : Int32)), .val (.int (1 : Int32)), .val (.long kc), .second, .val (.int (1 : Int32)), .val (.long kb), .second, .val (.long kc), .second, .unset] [(.int (1 : Int32))])) tgt
          refine XS.istore X44.here hx rfl (hb hby at_142) rfl (l' := #[.val (.int fl), .val (.long ka), .second, .val (.long kb), .second, .val (.long kc), .second, .val (.ref sv), .val (.int (1 : Int32)), .val (.int (0 : Int32)), .val (.int (1 : Int32)), .val (.long kc), .second, .val (.int (1 : Int32)), .val (.long kb), .second, .val (.long kc), .second, .val (.int (1 : Int32))]) rfl ?_
          show Steps p.tables e below (T44.setTop (mkF m 144 #[.val (.int fl), .val (.long ka), .second, .val (.long kb), .second, .val (.long kc), .second, .val (.ref sv), .val (.int (1 : Int32)), .val (.int (0 : Int32)), .val (.int (1 : Int32)), .val (.long kc), .second, .val (.int (1 : Int32)), .val (.long kb), .second, .val (.long kc), .second, .val (.int (1 : Int32))] [])) tgt
          refine XS.aload X44.here hx rfl (hb hby at_144) rfl rfl ?_
          show Steps p.tables e below (T44.setTop (mkF m 146 #[.val (.int fl), .val (.long ka), .second, .val (.long kb), .second, .val (.long kc), .second, .val (.ref sv), .val (.int (1 : Int32)), .val (.int (0 : Int32)), .val (.int (1 : Int32)), .val (.long kc), .second, .val (.int (1 : Int32)), .val (.long kb), .second, .val (.long kc), .second, .val (.int (1 : Int32))] [(.ref sv)])) tgt
          refine XS.iconst X44.here hx rfl (hb hby at_146) ?_
          exact k
        obtain ⟨cq45, kq45, q45a, q45b, q45c⟩ := isOf hZ K44 E_sv_42
        obtain ⟨v45, _, ⟨T45, L45, k45, n45⟩, -, Xc45, ⟨Lc45, hQ45, l45, y45, z45⟩, st45⟩ := X44.virtualBack hx (y := (⟨"com/example/chainwright/chainwright/KeySort", "sort", "(I)V"⟩ : MethodName)) (z := (⟨"com/example/chainwright/chainwright/KeySort", "sort", "(I)V"⟩ : MethodName)) hown (mvT hZ (hw _ (List.mem_of_getElem? (i := 27) rfl))) (mvT hZ (hw _ (List.mem_of_getElem? (i := 28) rfl))) (notFace_of_selects (args := #[]) (mvT hZ (hw _ (List.mem_of_getElem? (i := 30) rfl)))) (mvT hZ (hw _ (List.mem_of_getElem? (i := 30) rfl))) (mvT hZ (hw _ (List.mem_of_getElem? (i := 29) rfl))) (by decide) (backOf (W := 0) (rm5 l Z a0 hw [] sv (2 : Int32) nu_2 ke_2 ro_2 (own_up (own_up (own_up (fun _ => 0) 0 (1 : Int32)) 1 (0 : Int32)) 0 (1 : Int32)) (own_upJ (own_upJ (own_upJ (fun _ => 0) 1 ka) 0 kb) 1 kc) (fun _ => 0) 1 0 T42.heap n0 Zs42 E_sv_42 F_sv_numbers_42 F_sv_keys_42 F_sv_room_42 g42_0 g42_1 A_ro_2_42 g2_3 g2_5 g2_6 g2_7 g2_8 ne_sv_nu_2 ne_sv_ro_2 rfl (by decide) (by decide) (by decide) (by decide)) hZ (hw _ (List.mem_of_getElem? (i := 31) rfl)) (hw _ (List.mem_of_getElem? (i := 2) rfl)) (by decide) (by decide)) q45a q45c (g := (mkF m 147 #[.val (.int fl), .val (.long ka), .second, .val (.long kb), .second, .val (.long kc), .second, .val (.ref sv), .val (.int (1 : Int32)), .val (.int (0 : Int32)), .val (.int (1 : Int32)), .val (.long kc), .second, .val (.int (1 : Int32)), .val (.long kb), .second, .val (.long kc), .second, .val (.int (1 : Int32))] [(.int (2 : Int32)), (.ref sv)])) rfl (by rw [hml]; rfl) (Steps.refl _) (argsL := [(.int (2 : Int32))]) (rest := []) (lenOf pd_0_0 rfl) rfl (by show 2 * 0 + _ ≤ _; exact Nat.le_of_eq rfl) (hb hby at_147) (fun _ _ => ⟨rfl, K44, (by decide : 4 + 0 ≤ _), (by decide : 9 + 0 ≤ _)⟩)
        dsimp only [Pt.U, Pt.locs, Pt.cells, Pt.slots] at Xc45 l45 y45 z45 st45 hQ45
        have X45 := own_cast Xc45 l45 y45 z45
        obtain ⟨ev45, N45q, K45, g45_0⟩ := hQ45
        rw [ev45] at st45
        have N45 := Fr.app N44 N45q
        have E_sv_45 := E_sv_42.keep K45
        have F_sv_numbers_45 := F_sv_numbers_42.keep K45 (ninS ne_sv_nu_2 (ninS ne_sv_ro_2 nin0))
        have F_sv_keys_45 := F_sv_keys_42.keep K45 (ninS ne_sv_nu_2 (ninS ne_sv_ro_2 nin0))
        have F_sv_room_45 := F_sv_room_42.keep K45 (ninS ne_sv_nu_2 (ninS ne_sv_ro_2 nin0))
        have A_ke_2_45 := g42_1.keep K45 (ninS (Ne.symm g2_6) (ninS g2_8 nin0))
        have Zs45 : n0 ≤ T45.heap.size := Nat.le_trans Zs42 K45.1
        refine own_st (fun tgt k => st45.trans k) ?_
        show own_Go p e below _ (T45.setTop (mkF m 150 #[.val (.int fl), .val (.long ka), .second, .val (.long kb), .second, .val (.long kc), .second, .val (.ref sv), .val (.int (1 : Int32)), .val (.int (0 : Int32)), .val (.int (1 : Int32)), .val (.long kc), .second, .val (.int (1 : Int32)), .val (.long kb), .second, .val (.long kc), .second, .val (.int (1 : Int32))] []))
        refine own_st (V := T45.setTop (mkF m 158 #[.val (.int fl), .val (.long ka), .second, .val (.long kb), .second, .val (.long kc), .second, .val (.ref sv), .val (.int (1 : Int32)), .val (.int (0 : Int32)), .val (.int (1 : Int32)), .val (.long kc), .second, .val (.int (1 : Int32)), .val (.long kb), .second, .val (.long kc), .second, .val (.int (1 : Int32))] [(.int (0 : Int32)), (.ref sv)])) (fun tgt k => ?_) ?_
        · show Steps p.tables e below (T45.setTop (mkF m 150 #[.val (.int fl), .val (.long ka), .second, .val (.long kb), .second, .val (.long kc), .second, .val (.ref sv), .val (.int (1 : Int32)), .val (.int (0 : Int32)), .val (.int (1 : Int32)), .val (.long kc), .second, .val (.int (1 : Int32)), .val (.long kb), .second, .val (.long kc), .second, .val (.int (1 : Int32))] [])) tgt
          refine XS.iload X45.here hx rfl (hb hby at_150) rfl ?_
          show Steps p.tables e below (T45.setTop (mkF m 152 #[.val (.int fl), .val (.long ka), .second, .val (.long kb), .second, .val (.long kc), .second, .val (.ref sv), .val (.int (1 : Int32)), .val (.int (0 : Int32)), .val (.int (1 : Int32)), .val (.long kc), .second, .val (.int (1 : Int32)), .val (.long kb), .second, .val (.long kc), .second, .val (.int (1 : Int32))] [(.int (1 : Int32))])) tgt
          refine XS.ifNo X45.here hx rfl (hb hby at_152) rfl ((if0 _ _).trans (feq (by decide : ¬ ((1 : Int32) = (0 : Int32)))).1) ?_
          show Steps p.tables e below (T45.setTop (mkF m 155 #[.val (.int fl), .val (.long ka), .second, .val (.long kb), .second, .val (.long kc), .second, .val (.ref sv), .val (.int (1 : Int32)), .val (.int (0 : Int32)), .val (.int (1 : Int32)), .val (.long kc), .second, .val (.int (1 : Int32)), .val (.long kb), .second, .val (.long kc), .second, .val (.int (1 : Int32))] [])) tgt
          refine XS.aload X45.here hx rfl (hb hby at_155) rfl rfl ?_
          show Steps p.tables e below (T45.setTop (mkF m 157 #[.val (.int fl), .val (.long ka), .second, .val (.long kb), .second, .val (.long kc), .second, .val (.ref sv), .val (.int (1 : Int32)), .val (.int (0 : Int32)), .val (.int (1 : Int32)), .val (.long kc), .second, .val (.int (1 : Int32)), .val (.long kb), .second, .val (.long kc), .second, .val (.int (1 : Int32))] [(.ref sv)])) tgt
          refine XS.iconst X45.here hx rfl (hb hby at_157) ?_
          exact k
        obtain ⟨cq46, kq46, q46a, q46b, q46c⟩ := isOf hZ rfl E_sv_45
        obtain ⟨v46, _, ⟨T46, L46, k46, n46⟩, -, Xc46, ⟨Lc46, hQ46, l46, y46, z46⟩, st46⟩ := X45.virtualBack hx (y := (⟨"com/example/chainwright/chainwright/KeySort", "number", "(I)I"⟩ : MethodName)) (z := (⟨"com/example/chainwright/chainwright/KeySort", "number", "(I)I"⟩ : MethodName)) hown (mvT hZ (hw _ (List.mem_of_getElem? (i := 22) rfl))) (mvT hZ (hw _ (List.mem_of_getElem? (i := 23) rfl))) (notFace_of_selects (args := #[]) (mvT hZ (hw _ (List.mem_of_getElem? (i := 25) rfl)))) (mvT hZ (hw _ (List.mem_of_getElem? (i := 25) rfl))) (mvT hZ (hw _ (List.mem_of_getElem? (i := 24) rfl))) (by decide) (backOf (W := 0) (rm4 l Z a0 hw [] sv (0 : Int32) nu_2 (if (own_bf (own_upJ (own_upJ (own_upJ (fun _ => 0) 1 ka) 0 kb) 1 kc) ((own_up (own_up (own_up (fun _ => 0) 0 (1 : Int32)) 1 (0 : Int32)) 0 (1 : Int32)) 1) ((own_up (own_up (own_up (fun _ => 0) 0 (1 : Int32)) 1 (0 : Int32)) 0 (1 : Int32)) 0) 0 1) = 0 then (own_up (own_up (fun _ => 0) 0 ((own_up (own_up (own_up (fun _ => 0) 0 (1 : Int32)) 1 (0 : Int32)) 0 (1 : Int32)) 0)) 1 ((own_up (own_up (own_up (fun _ => 0) 0 (1 : Int32)) 1 (0 : Int32)) 0 (1 : Int32)) 1)) else (own_up (own_up (fun _ => 0) 0 ((own_up (own_up (own_up (fun _ => 0) 0 (1 : Int32)) 1 (0 : Int32)) 0 (1 : Int32)) 1)) 1 ((own_up (own_up (own_up (fun _ => 0) 0 (1 : Int32)) 1 (0 : Int32)) 0 (1 : Int32)) 0))) 0 T45.heap n0 Zs45 F_sv_numbers_45 g45_0 (by decide) (by decide)) hZ (hw _ (List.mem_of_getElem? (i := 26) rfl)) (hw _ (List.mem_of_getElem? (i := 2) rfl)) (by decide) (by decide)) q46a q46c (g := (mkF m 158 #[.val (.int fl), .val (.long ka), .second, .val (.long kb), .second, .val (.long kc), .second, .val (.ref sv), .val (.int (1 : Int32)), .val (.int (0 : Int32)), .val (.int (1 : Int32)), .val (.long kc), .second, .val (.int (1 : Int32)), .val (.long kb), .second, .val (.long kc), .second, .val (.int (1 : Int32))] [(.int (0 : Int32)), (.ref sv)])) rfl (by rw [hml]; rfl) (Steps.refl _) (argsL := [(.int (0 : Int32))]) (rest := []) (lenOf pd_0_2 rfl) rfl (by show 2 * 0 + _ ≤ _; exact Nat.le_of_eq rfl) (hb hby at_158) (fun _ _ => ⟨rfl, rfl, (by decide : 4 + 0 ≤ _), (by decide : 9 + 0 ≤ _)⟩)
        dsimp only [Pt.U, Pt.locs, Pt.cells, Pt.slots] at Xc46 l46 y46 z46 st46 hQ46
        have X46 := own_cast Xc46 l46 y46 z46
        obtain ⟨ev46, N46q, K46⟩ := hQ46
        rw [ev46] at st46
        have N46 := Fr.app N45 N46q
        refine own_st (fun tgt k => st46.trans k) ?_
        show own_Go p e below _ (T46.setTop (mkF m 161 #[.val (.int fl), .val (.long ka), .second, .val (.long kb), .second, .val (.long kc), .second, .val (.ref sv), .val (.int (1 : Int32)), .val (.int (0 : Int32)), .val (.int (1 : Int32)), .val (.long kc), .second, .val (.int (1 : Int32)), .val (.long kb), .second, .val (.long kc), .second, .val (.int (1 : Int32))] [(.int ((if (own_bf (own_upJ (own_upJ (own_upJ (fun _ => 0) 1 ka) 0 kb) 1 kc) ((own_up (own_up (own_up (fun _ => 0) 0 (1 : Int32)) 1 (0 : Int32)) 0 (1 : Int32)) 1) ((own_up (own_up (own_up (fun _ => 0) 0 (1 : Int32)) 1 (0 : Int32)) 0 (1 : Int32)) 0) 0 1) = 0 then (own_up (own_up (fun _ => 0) 0 ((own_up (own_up (own_up (fun _ => 0) 0 (1 : Int32)) 1 (0 : Int32)) 0 (1 : Int32)) 0)) 1 ((own_up (own_up (own_up (fun _ => 0) 0 (1 : Int32)) 1 (0 : Int32)) 0 (1 : Int32)) 1)) else (own_up (own_up (fun _ => 0) 0 ((own_up (own_up (own_up (fun _ => 0) 0 (1 : Int32)) 1 (0 : Int32)) 0 (1 : Int32)) 1)) 1 ((own_up (own_up (own_up (fun _ => 0) 0 (1 : Int32)) 1 (0 : Int32)) 0 (1 : Int32)) 0))) 0))]))
        refine own_st (V := T46.setTop (mkF m 169 #[.val (.int fl), .val (.long ka), .second, .val (.long kb), .second, .val (.long kc), .second, .val (.ref sv), .val (.int (1 : Int32)), .val (.int (0 : Int32)), .val (.int (1 : Int32)), .val (.long kc), .second, .val (.int (1 : Int32)), .val (.long kb), .second, .val (.long kc), .second, .val (.int (1 : Int32))] [(.int (1 : Int32)), (.ref sv)])) (fun tgt k => ?_) ?_
        · show Steps p.tables e below (T46.setTop (mkF m 161 #[.val (.int fl), .val (.long ka), .second, .val (.long kb), .second, .val (.long kc), .second, .val (.ref sv), .val (.int (1 : Int32)), .val (.int (0 : Int32)), .val (.int (1 : Int32)), .val (.long kc), .second, .val (.int (1 : Int32)), .val (.long kb), .second, .val (.long kc), .second, .val (.int (1 : Int32))] [(.int ((if (own_bf (own_upJ (own_upJ (own_upJ (fun _ => 0) 1 ka) 0 kb) 1 kc) ((own_up (own_up (own_up (fun _ => 0) 0 (1 : Int32)) 1 (0 : Int32)) 0 (1 : Int32)) 1) ((own_up (own_up (own_up (fun _ => 0) 0 (1 : Int32)) 1 (0 : Int32)) 0 (1 : Int32)) 0) 0 1) = 0 then (own_up (own_up (fun _ => 0) 0 ((own_up (own_up (own_up (fun _ => 0) 0 (1 : Int32)) 1 (0 : Int32)) 0 (1 : Int32)) 0)) 1 ((own_up (own_up (own_up (fun _ => 0) 0 (1 : Int32)) 1 (0 : Int32)) 0 (1 : Int32)) 1)) else (own_up (own_up (fun _ => 0) 0 ((own_up (own_up (own_up (fun _ => 0) 0 (1 : Int32)) 1 (0 : Int32)) 0 (1 : Int32)) 1)) 1 ((own_up (own_up (own_up (fun _ => 0) 0 (1 : Int32)) 1 (0 : Int32)) 0 (1 : Int32)) 0))) 0))])) tgt
          refine XS.iload X46.here hx rfl (hb hby at_161) rfl ?_
          show Steps p.tables e below (T46.setTop (mkF m 163 #[.val (.int fl), .val (.long ka), .second, .val (.long kb), .second, .val (.long kc), .second, .val (.ref sv), .val (.int (1 : Int32)), .val (.int (0 : Int32)), .val (.int (1 : Int32)), .val (.long kc), .second, .val (.int (1 : Int32)), .val (.long kb), .second, .val (.long kc), .second, .val (.int (1 : Int32))] [(.int (1 : Int32)), (.int ((if (own_bf (own_upJ (own_upJ (own_upJ (fun _ => 0) 1 ka) 0 kb) 1 kc) ((own_up (own_up (own_up (fun _ => 0) 0 (1 : Int32)) 1 (0 : Int32)) 0 (1 : Int32)) 1) ((own_up (own_up (own_up (fun _ => 0) 0 (1 : Int32)) 1 (0 : Int32)) 0 (1 : Int32)) 0) 0 1) = 0 then (own_up (own_up (fun _ => 0) 0 ((own_up (own_up (own_up (fun _ => 0) 0 (1 : Int32)) 1 (0 : Int32)) 0 (1 : Int32)) 0)) 1 ((own_up (own_up (own_up (fun _ => 0) 0 (1 : Int32)) 1 (0 : Int32)) 0 (1 : Int32)) 1)) else (own_up (own_up (fun _ => 0) 0 ((own_up (own_up (own_up (fun _ => 0) 0 (1 : Int32)) 1 (0 : Int32)) 0 (1 : Int32)) 1)) 1 ((own_up (own_up (own_up (fun _ => 0) 0 (1 : Int32)) 1 (0 : Int32)) 0 (1 : Int32)) 0))) 0))])) tgt
          refine XS.icmpNo X46.here hx rfl (hb hby at_163) rfl (teq (by simp [own_bf, own_b10, own_b01, own_up, own_upJ, hc134])).2 ?_
          show Steps p.tables e below (T46.setTop (mkF m 166 #[.val (.int fl), .val (.long ka), .second, .val (.long kb), .second, .val (.long kc), .second, .val (.ref sv), .val (.int (1 : Int32)), .val (.int (0 : Int32)), .val (.int (1 : Int32)), .val (.long kc), .second, .val (.int (1 : Int32)), .val (.long kb), .second, .val (.long kc), .second, .val (.int (1 : Int32))] [])) tgt
          refine XS.aload X46.here hx rfl (hb hby at_166) rfl rfl ?_
          show Steps p.tables e below (T46.setTop (mkF m 168 #[.val (.int fl), .val (.long ka), .second, .val (.long kb), .second, .val (.long kc), .second, .val (.ref sv), .val (.int (1 : Int32)), .val (.int (0 : Int32)), .val (.int (1 : Int32)), .val (.long kc), .second, .val (.int (1 : Int32)), .val (.long kb), .second, .val (.long kc), .second, .val (.int (1 : Int32))] [(.ref sv)])) tgt
          refine XS.iconst X46.here hx rfl (hb hby at_168) ?_
          exact k
        obtain ⟨cq47, kq47, q47a, q47b, q47c⟩ := isOf hZ K46 E_sv_45
        obtain ⟨v47, _, ⟨T47, L47, k47, n47⟩, -, Xc47, ⟨Lc47, hQ47, l47, y47, z47⟩, st47⟩ := X46.virtualBack hx (y := (⟨"com/example/chainwright/chainwright/KeySort", "number", "(I)I"⟩ : MethodName)) (z := (⟨"com/example/chainwright/chainwright/KeySort", "number", "(I)I"⟩ : MethodName)) hown (mvT hZ (hw _ (List.mem_of_getElem? (i := 22) rfl))) (mvT hZ (hw _ (List.mem_of_getElem? (i := 23) rfl))) (notFace_of_selects (args := #[]) (mvT hZ (hw _ (List.mem_of_getElem? (i := 25) rfl)))) (mvT hZ (hw _ (List.mem_of_getElem? (i := 25) rfl))) (mvT hZ (hw _ (List.mem_of_getElem? (i := 24) rfl))) (by decide) (backOf (W := 0) (rm4 l Z a0 hw [] sv (1 : Int32) nu_2 (if (own_bf (own_upJ (own_upJ (own_upJ (fun _ => 0) 1 ka) 0 kb) 1 kc) ((own_up (own_up (own_up (fun _ => 0) 0 (1 : Int32)) 1 (0 : Int32)) 0 (1 : Int32)) 1) ((own_up (own_up (own_up (fun _ => 0) 0 (1 : Int32)) 1 (0 : Int32)) 0 (1 : Int32)) 0) 0 1) = 0 then (own_up (own_up (fun _ => 0) 0 ((own_up (own_up (own_up (fun _ => 0) 0 (1 : Int32)) 1 (0 : Int32)) 0 (1 : Int32)) 0)) 1 ((own_up (own_up (own_up (fun _ => 0) 0 (1 : Int32)) 1 (0 : Int32)) 0 (1 : Int32)) 1)) else (own_up (own_up (fun _ => 0) 0 ((own_up (own_up (own_up (fun _ => 0) 0 (1 : Int32)) 1 (0 : Int32)) 0 (1 : Int32)) 1)) 1 ((own_up (own_up (own_up (fun _ => 0) 0 (1 : Int32)) 1 (0 : Int32)) 0 (1 : Int32)) 0))) 1 T45.heap n0 Zs45 F_sv_numbers_45 g45_0 (by decide) (by decide)) hZ (hw _ (List.mem_of_getElem? (i := 26) rfl)) (hw _ (List.mem_of_getElem? (i := 2) rfl)) (by decide) (by decide)) q47a q47c (g := (mkF m 169 #[.val (.int fl), .val (.long ka), .second, .val (.long kb), .second, .val (.long kc), .second, .val (.ref sv), .val (.int (1 : Int32)), .val (.int (0 : Int32)), .val (.int (1 : Int32)), .val (.long kc), .second, .val (.int (1 : Int32)), .val (.long kb), .second, .val (.long kc), .second, .val (.int (1 : Int32))] [(.int (1 : Int32)), (.ref sv)])) rfl (by rw [hml]; rfl) (Steps.refl _) (argsL := [(.int (1 : Int32))]) (rest := []) (lenOf pd_0_2 rfl) rfl (by show 2 * 0 + _ ≤ _; exact Nat.le_of_eq rfl) (hb hby at_169) (fun _ _ => ⟨rfl, K46, (by decide : 4 + 0 ≤ _), (by decide : 9 + 0 ≤ _)⟩)
        dsimp only [Pt.U, Pt.locs, Pt.cells, Pt.slots] at Xc47 l47 y47 z47 st47 hQ47
        have X47 := own_cast Xc47 l47 y47 z47
        obtain ⟨ev47, N47q, K47⟩ := hQ47
        rw [ev47] at st47
        have N47 := Fr.app N46 N47q
        refine own_st (fun tgt k => st47.trans k) ?_
        show own_Go p e below _ (T47.setTop (mkF m 172 #[.val (.int fl), .val (.long ka), .second, .val (.long kb), .second, .val (.long kc), .second, .val (.ref sv), .val (.int (1 : Int32)), .val (.int (0 : Int32)), .val (.int (1 : Int32)), .val (.long kc), .second, .val (.int (1 : Int32)), .val (.long kb), .second, .val (.long kc), .second, .val (.int (1 : Int32))] [(.int ((if (own_bf (own_upJ (own_upJ (own_upJ (fun _ => 0) 1 ka) 0 kb) 1 kc) ((own_up (own_up (own_up (fun _ => 0) 0 (1 : Int32)) 1 (0 : Int32)) 0 (1 : Int32)) 1) ((own_up (own_up (own_up (fun _ => 0) 0 (1 : Int32)) 1 (0 : Int32)) 0 (1 : Int32)) 0) 0 1) = 0 then (own_up (own_up (fun _ => 0) 0 ((own_up (own_up (own_up (fun _ => 0) 0 (1 : Int32)) 1 (0 : Int32)) 0 (1 : Int32)) 0)) 1 ((own_up (own_up (own_up (fun _ => 0) 0 (1 : Int32)) 1 (0 : Int32)) 0 (1 : Int32)) 1)) else (own_up (own_up (fun _ => 0) 0 ((own_up (own_up (own_up (fun _ => 0) 0 (1 : Int32)) 1 (0 : Int32)) 0 (1 : Int32)) 1)) 1 ((own_up (own_up (own_up (fun _ => 0) 0 (1 : Int32)) 1 (0 : Int32)) 0 (1 : Int32)) 0))) 1))]))
        refine own_st (V := T47.setTop (mkF m 176 #[.val (.int fl), .val (.long ka), .second, .val (.long kb), .second, .val (.long kc), .second, .val (.ref sv), .val (.int (1 : Int32)), .val (.int (0 : Int32)), .val (.int (1 : Int32)), .val (.long kc), .second, .val (.int (1 : Int32)), .val (.long kb), .second, .val (.long kc), .second, .val (.int (1 : Int32))] [(.int ((1 : Int32) - (1 : Int32))), (.int ((if (own_bf (own_upJ (own_upJ (own_upJ (fun _ => 0) 1 ka) 0 kb) 1 kc) ((own_up (own_up (own_up (fun _ => 0) 0 (1 : Int32)) 1 (0 : Int32)) 0 (1 : Int32)) 1) ((own_up (own_up (own_up (fun _ => 0) 0 (1 : Int32)) 1 (0 : Int32)) 0 (1 : Int32)) 0) 0 1) = 0 then (own_up (own_up (fun _ => 0) 0 ((own_up (own_up (own_up (fun _ => 0) 0 (1 : Int32)) 1 (0 : Int32)) 0 (1 : Int32)) 0)) 1 ((own_up (own_up (own_up (fun _ => 0) 0 (1 : Int32)) 1 (0 : Int32)) 0 (1 : Int32)) 1)) else (own_up (own_up (fun _ => 0) 0 ((own_up (own_up (own_up (fun _ => 0) 0 (1 : Int32)) 1 (0 : Int32)) 0 (1 : Int32)) 1)) 1 ((own_up (own_up (own_up (fun _ => 0) 0 (1 : Int32)) 1 (0 : Int32)) 0 (1 : Int32)) 0))) 1))])) (fun tgt k => ?_) ?_
        · show Steps p.tables e below (T47.setTop (mkF m 172 #[.val (.int fl), .val (.long ka), .second, .val (.long kb), .second, .val (.long kc), .second, .val (.ref sv), .val (.int (1 : Int32)), .val (.int (0 : Int32)), .val (.int (1 : Int32)), .val (.long kc), .second, .val (.int (1 : Int32)), .val (.long kb), .second, .val (.long kc), .second, .val (.int (1 : Int32))] [(.int ((if (own_bf (own_upJ (own_upJ (own_upJ (fun _ => 0) 1 ka) 0 kb) 1 kc) ((own_up (own_up (own_up (fun _ => 0) 0 (1 : Int32)) 1 (0 : Int32)) 0 (1 : Int32)) 1) ((own_up (own_up (own_up (fun _ => 0) 0 (1 : Int32)) 1 (0 : Int32)) 0 (1 : Int32)) 0) 0 1) = 0 then (own_up (own_up (fun _ => 0) 0 ((own_up (own_up (own_up (fun _ => 0) 0 (1 : Int32)) 1 (0 : Int32)) 0 (1 : Int32)) 0)) 1 ((own_up (own_up (own_up (fun _ => 0) 0 (1 : Int32)) 1 (0 : Int32)) 0 (1 : Int32)) 1)) else (own_up (own_up (fun _ => 0) 0 ((own_up (own_up (own_up (fun _ => 0) 0 (1 : Int32)) 1 (0 : Int32)) 0 (1 : Int32)) 1)) 1 ((own_up (own_up (own_up (fun _ => 0) 0 (1 : Int32)) 1 (0 : Int32)) 0 (1 : Int32)) 0))) 1))])) tgt
          refine XS.iconst X47.here hx rfl (hb hby at_172) ?_
          show Steps p.tables e below (T47.setTop (mkF m 173 #[.val (.int fl), .val (.long ka), .second, .val (.long kb), .second, .val (.long kc), .second, .val (.ref sv), .val (.int (1 : Int32)), .val (.int (0 : Int32)), .val (.int (1 : Int32)), .val (.long kc), .second, .val (.int (1 : Int32)), .val (.long kb), .second, .val (.long kc), .second, .val (.int (1 : Int32))] [(.int (1 : Int32)), (.int ((if (own_bf (own_upJ (own_upJ (own_upJ (fun _ => 0) 1 ka) 0 kb) 1 kc) ((own_up (own_up (own_up (fun _ => 0) 0 (1 : Int32)) 1 (0 : Int32)) 0 (1 : Int32)) 1) ((own_up (own_up (own_up (fun _ => 0) 0 (1 : Int32)) 1 (0 : Int32)) 0 (1 : Int32)) 0) 0 1) = 0 then (own_up (own_up (fun _ => 0) 0 ((own_up (own_up (own_up (fun _ => 0) 0 (1 : Int32)) 1 (0 : Int32)) 0 (1 : Int32)) 0)) 1 ((own_up (own_up (own_up (fun _ => 0) 0 (1 : Int32)) 1 (0 : Int32)) 0 (1 : Int32)) 1)) else (own_up (own_up (fun _ => 0) 0 ((own_up (own_up (own_up (fun _ => 0) 0 (1 : Int32)) 1 (0 : Int32)) 0 (1 : Int32)) 1)) 1 ((own_up (own_up (own_up (fun _ => 0) 0 (1 : Int32)) 1 (0 : Int32)) 0 (1 : Int32)) 0))) 1))])) tgt
          refine XS.iload X47.here hx rfl (hb hby at_173) rfl ?_
          show Steps p.tables e below (T47.setTop (mkF m 175 #[.val (.int fl), .val (.long ka), .second, .val (.long kb), .second, .val (.long kc), .second, .val (.ref sv), .val (.int (1 : Int32)), .val (.int (0 : Int32)), .val (.int (1 : Int32)), .val (.long kc), .second, .val (.int (1 : Int32)), .val (.long kb), .second, .val (.long kc), .second, .val (.int (1 : Int32))] [(.int (1 : Int32)), (.int (1 : Int32)), (.int ((if (own_bf (own_upJ (own_upJ (own_upJ (fun _ => 0) 1 ka) 0 kb) 1 kc) ((own_up (own_up (own_up (fun _ => 0) 0 (1 : Int32)) 1 (0 : Int32)) 0 (1 : Int32)) 1) ((own_up (own_up (own_up (fun _ => 0) 0 (1 : Int32)) 1 (0 : Int32)) 0 (1 : Int32)) 0) 0 1) = 0 then (own_up (own_up (fun _ => 0) 0 ((own_up (own_up (own_up (fun _ => 0) 0 (1 : Int32)) 1 (0 : Int32)) 0 (1 : Int32)) 0)) 1 ((own_up (own_up (own_up (fun _ => 0) 0 (1 : Int32)) 1 (0 : Int32)) 0 (1 : Int32)) 1)) else (own_up (own_up (fun _ => 0) 0 ((own_up (own_up (own_up (fun _ => 0) 0 (1 : Int32)) 1 (0 : Int32)) 0 (1 : Int32)) 1)) 1 ((own_up (own_up (own_up (fun _ => 0) 0 (1 : Int32)) 1 (0 : Int32)) 0 (1 : Int32)) 0))) 1))])) tgt
          refine XS.isub X47.here hx rfl (hb hby at_175) rfl ?_
          exact k
        rw [show ((1 : Int32) - (1 : Int32)) = (0 : Int32) from by decide]
        refine own_st (V := T47.setTop (mkF m 184 #[.val (.int fl), .val (.long ka), .second, .val (.long kb), .second, .val (.long kc), .second, .val (.ref sv), .val (.int (1 : Int32)), .val (.int (0 : Int32)), .val (.int (1 : Int32)), .val (.long kc), .second, .val (.int (1 : Int32)), .val (.long kb), .second, .val (.long kc), .second, .val (.int (1 : Int32))] [(.int (1 : Int32))])) (fun tgt k => ?_) ?_
        · show Steps p.tables e below (T47.setTop (mkF m 176 #[.val (.int fl), .val (.long ka), .second, .val (.long kb), .second, .val (.long kc), .second, .val (.ref sv), .val (.int (1 : Int32)), .val (.int (0 : Int32)), .val (.int (1 : Int32)), .val (.long kc), .second, .val (.int (1 : Int32)), .val (.long kb), .second, .val (.long kc), .second, .val (.int (1 : Int32))] [(.int (0 : Int32)), (.int ((if (own_bf (own_upJ (own_upJ (own_upJ (fun _ => 0) 1 ka) 0 kb) 1 kc) ((own_up (own_up (own_up (fun _ => 0) 0 (1 : Int32)) 1 (0 : Int32)) 0 (1 : Int32)) 1) ((own_up (own_up (own_up (fun _ => 0) 0 (1 : Int32)) 1 (0 : Int32)) 0 (1 : Int32)) 0) 0 1) = 0 then (own_up (own_up (fun _ => 0) 0 ((own_up (own_up (own_up (fun _ => 0) 0 (1 : Int32)) 1 (0 : Int32)) 0 (1 : Int32)) 0)) 1 ((own_up (own_up (own_up (fun _ => 0) 0 (1 : Int32)) 1 (0 : Int32)) 0 (1 : Int32)) 1)) else (own_up (own_up (fun _ => 0) 0 ((own_up (own_up (own_up (fun _ => 0) 0 (1 : Int32)) 1 (0 : Int32)) 0 (1 : Int32)) 1)) 1 ((own_up (own_up (own_up (fun _ => 0) 0 (1 : Int32)) 1 (0 : Int32)) 0 (1 : Int32)) 0))) 1))])) tgt
          refine XS.icmpNo X47.here hx rfl (hb hby at_176) rfl (teq (by simp [own_bf, own_b10, own_b01, own_up, own_upJ, hc134])).2 ?_
          show Steps p.tables e below (T47.setTop (mkF m 179 #[.val (.int fl), .val (.long ka), .second, .val (.long kb), .second, .val (.long kc), .second, .val (.ref sv), .val (.int (1 : Int32)), .val (.int (0 : Int32)), .val (.int (1 : Int32)), .val (.long kc), .second, .val (.int (1 : Int32)), .val (.long kb), .second, .val (.long kc), .second, .val (.int (1 : Int32))] [])) tgt
          refine XS.iconst X47.here hx rfl (hb hby at_179) ?_
          show Steps p.tables e below (T47.setTop (mkF m 180 #[.val (.int fl), .val (.long ka), .second, .val (.long kb), .second, .val (.long kc), .second, .val (.ref sv), .val (.int (1 : Int32)), .val (.int (0 : Int32)), .val (.int (1 : Int32)), .val (.long kc), .second, .val (.int (1 : Int32)), .val (.long kb), .second, .val (.long kc), .second, .val (.int (1 : Int32))] [(.int (1 : Int32))])) tgt
          refine XS.goto X47.here hx rfl (pc0 := 180) (pc' := 184) rfl (hb hby at_180) (by decide) (by decide) ?_
          exact k
        refine own_retN X47 hx hlk (t := .boolean) (z' := (1 : Int32)) Bd.returns (by simp) rfl (hb hby at_184) ?_ (by decide) (by decide)
        show Q0 Z fl ka kb kc h0 n0 (some (.int (1 : Int32))) T47.heap _
        rw [K47]
        exact ⟨rfl, N47⟩
      · skip
        refine own_st (V := T44.setTop (mkF m 147 #[.val (.int fl), .val (.long ka), .second, .val (.long kb), .second, .val (.long kc), .second, .val (.ref sv), .val (.int (1 : Int32)), .val (.int (0 : Int32)), .val (.int (1 : Int32)), .val (.long kc), .second, .val (.int (1 : Int32)), .val (.long kb), .second, .val (.long kc), .second, .val (.int (0 : Int32))] [(.int (2 : Int32)), (.ref sv)])) (fun tgt k => ?_) ?_
        · show Steps p.tables e below (T44.setTop (mkF m 134 #[.val (.int fl), .val (.long ka), .second, .val (.long kb), .second, .val (.long kc), .second, .val (.ref sv), .val (.int (1 : Int32)), .val (.int (0 : Int32)), .val (.int (1 : Int32)), .val (.long kc), .second, .val (.int (1 : Int32)), .val (.long kb), .second, .val (.long kc), .second, .unset] [(.int (lcmpW kc kb))])) tgt
          refine XS.ifYes X44.here hx rfl (pc0 := 134) (pc' := 141) rfl (hb hby at_134) rfl ((if0 _ _).trans (flt (fun q => hc134 ((lw_lt kc kb).mp q))).2.1) (by decide) (by decide) ?_
          show Steps p.tables e below (T44.setTop (mkF m 141 #[.val (.int fl), .val (.long ka), .second, .val (.long kb), .second, .val (.long kc), .second, .val (.ref sv), .val (.int (1 : Int32)), .val (.int (0 : Int32)), .val (.int (1 : Int32)), .val (.long kc), .second, .val (.int (1 : Int32)), .val (.long kb), .second, .val (.long kc), .second, .unset] [])) tgt
          refine XS.iconst X44.here hx rfl (hb hby at_141) ?_
          show Steps p.tables e below (T44.setTop (mkF m 142 #[.val (.int fl), .val (.long ka), .second, .val (.long kb), .second, .val (.long kc), .second, .val (.ref sv), .val (.int (1 : Int32)), .val (.int (0 : Int32)), .val (.int (1 : Int32)), .val (.long kc), .second, .val (.int (1 : Int32)), .val (.long kb), .second, .val (.long kc), .second, .unset] [(.int (0 : Int32))])) tgt
          refine XS.istore X44.here hx rfl (hb hby at_142) rfl (l' := #[.val (.int fl), .val (.long ka), .second, .val (.long kb), .second, .val (.long kc), .second, .val (.ref sv), .val (.int (1 : Int32)), .val (.int (0 : Int32)), .val (.int (1 : Int32)), .val (.long kc), .second, .val (.int (1 : Int32)), .val (.long kb), .second, .val (.long kc), .second, .val (.int (0 : Int32))]) rfl ?_
          show Steps p.tables e below (T44.setTop (mkF m 144 #[.val (.int fl), .val (.long ka), .second, .val (.long kb), .second, .val (.long kc), .second, .val (.ref sv), .val (.int (1 : Int32)), .val (.int (0 : Int32)), .val (.int (1 : Int32)), .val (.long kc), .second, .val (.int (1 : Int32)), .val (.long kb), .second, .val (.long kc), .second, .val (.int (0 : Int32))] [])) tgt
          refine XS.aload X44.here hx rfl (hb hby at_144) rfl rfl ?_
          show Steps p.tables e below (T44.setTop (mkF m 146 #[.val (.int fl), .val (.long ka), .second, .val (.long kb), .second, .val (.long kc), .second, .val (.ref sv), .val (.int (1 : Int32)), .val (.int (0 : Int32)), .val (.int (1 : Int32)), .val (.long kc), .second, .val (.int (1 : Int32)), .val (.long kb), .second, .val (.long kc), .second, .val (.int (0 : Int32))] [(.ref sv)])) tgt
          refine XS.iconst X44.here hx rfl (hb hby at_146) ?_
          exact k
        obtain ⟨cq49, kq49, q49a, q49b, q49c⟩ := isOf hZ K44 E_sv_42
        obtain ⟨v49, _, ⟨T49, L49, k49, n49⟩, -, Xc49, ⟨Lc49, hQ49, l49, y49, z49⟩, st49⟩ := X44.virtualBack hx (y := (⟨"com/example/chainwright/chainwright/KeySort", "sort", "(I)V"⟩ : MethodName)) (z := (⟨"com/example/chainwright/chainwright/KeySort", "sort", "(I)V"⟩ : MethodName)) hown (mvT hZ (hw _ (List.mem_of_getElem? (i := 27) rfl))) (mvT hZ (hw _ (List.mem_of_getElem? (i := 28) rfl))) (notFace_of_selects (args := #[]) (mvT hZ (hw _ (List.mem_of_getElem? (i := 30) rfl)))) (mvT hZ (hw _ (List.mem_of_getElem? (i := 30) rfl))) (mvT hZ (hw _ (List.mem_of_getElem? (i := 29) rfl))) (by decide) (backOf (W := 0) (rm5 l Z a0 hw [] sv (2 : Int32) nu_2 ke_2 ro_2 (own_up (own_up (own_up (fun _ => 0) 0 (1 : Int32)) 1 (0 : Int32)) 0 (1 : Int32)) (own_upJ (own_upJ (own_upJ (fun _ => 0) 1 ka) 0 kb) 1 kc) (fun _ => 0) 1 0 T42.heap n0 Zs42 E_sv_42 F_sv_numbers_42 F_sv_keys_42 F_sv_room_42 g42_0 g42_1 A_ro_2_42 g2_3 g2_5 g2_6 g2_7 g2_8 ne_sv_nu_2 ne_sv_ro_2 rfl (by decide) (by decide) (by decide) (by decide)) hZ (hw _ (List.mem_of_getElem? (i := 31) rfl)) (hw _ (List.mem_of_getElem? (i := 2) rfl)) (by decide) (by decide)) q49a q49c (g := (mkF m 147 #[.val (.int fl), .val (.long ka), .second, .val (.long kb), .second, .val (.long kc), .second, .val (.ref sv), .val (.int (1 : Int32)), .val (.int (0 : Int32)), .val (.int (1 : Int32)), .val (.long kc), .second, .val (.int (1 : Int32)), .val (.long kb), .second, .val (.long kc), .second, .val (.int (0 : Int32))] [(.int (2 : Int32)), (.ref sv)])) rfl (by rw [hml]; rfl) (Steps.refl _) (argsL := [(.int (2 : Int32))]) (rest := []) (lenOf pd_0_0 rfl) rfl (by show 2 * 0 + _ ≤ _; exact Nat.le_of_eq rfl) (hb hby at_147) (fun _ _ => ⟨rfl, K44, (by decide : 4 + 0 ≤ _), (by decide : 9 + 0 ≤ _)⟩)
        dsimp only [Pt.U, Pt.locs, Pt.cells, Pt.slots] at Xc49 l49 y49 z49 st49 hQ49
        have X49 := own_cast Xc49 l49 y49 z49
        obtain ⟨ev49, N49q, K49, g49_0⟩ := hQ49
        rw [ev49] at st49
        have N49 := Fr.app N44 N49q
        have E_sv_49 := E_sv_42.keep K49
        have F_sv_numbers_49 := F_sv_numbers_42.keep K49 (ninS ne_sv_nu_2 (ninS ne_sv_ro_2 nin0))
        have F_sv_keys_49 := F_sv_keys_42.keep K49 (ninS ne_sv_nu_2 (ninS ne_sv_ro_2 nin0))
        have F_sv_room_49 := F_sv_room_42.keep K49 (ninS ne_sv_nu_2 (ninS ne_sv_ro_2 nin0))
        have A_ke_2_49 := g42_1.keep K49 (ninS (Ne.symm g2_6) (ninS g2_8 nin0))
        have Zs49 : n0 ≤ T49.heap.size := Nat.le_trans Zs42 K49.1
        refine own_st (fun tgt k => st49.trans k) ?_
        show own_Go p e below _ (T49.setTop (mkF m 150 #[.val (.int fl), .val (.long ka), .second, .val (.long kb), .second, .val (.long kc), .second, .val (.ref sv), .val (.int (1 : Int32)), .val (.int (0 : Int32)), .val (.int (1 : Int32)), .val (.long kc), .second, .val (.int (1 : Int32)), .val (.long kb), .second, .val (.long kc), .second, .val (.int (0 : Int32))] []))
        refine own_st (V := T49.setTop (mkF m 158 #[.val (.int fl), .val (.long ka), .second, .val (.long kb), .second, .val (.long kc), .second, .val (.ref sv), .val (.int (1 : Int32)), .val (.int (0 : Int32)), .val (.int (1 : Int32)), .val (.long kc), .second, .val (.int (1 : Int32)), .val (.long kb), .second, .val (.long kc), .second, .val (.int (0 : Int32))] [(.int (0 : Int32)), (.ref sv)])) (fun tgt k => ?_) ?_
        · show Steps p.tables e below (T49.setTop (mkF m 150 #[.val (.int fl), .val (.long ka), .second, .val (.long kb), .second, .val (.long kc), .second, .val (.ref sv), .val (.int (1 : Int32)), .val (.int (0 : Int32)), .val (.int (1 : Int32)), .val (.long kc), .second, .val (.int (1 : Int32)), .val (.long kb), .second, .val (.long kc), .second, .val (.int (0 : Int32))] [])) tgt
          refine XS.iload X49.here hx rfl (hb hby at_150) rfl ?_
          show Steps p.tables e below (T49.setTop (mkF m 152 #[.val (.int fl), .val (.long ka), .second, .val (.long kb), .second, .val (.long kc), .second, .val (.ref sv), .val (.int (1 : Int32)), .val (.int (0 : Int32)), .val (.int (1 : Int32)), .val (.long kc), .second, .val (.int (1 : Int32)), .val (.long kb), .second, .val (.long kc), .second, .val (.int (0 : Int32))] [(.int (1 : Int32))])) tgt
          refine XS.ifNo X49.here hx rfl (hb hby at_152) rfl ((if0 _ _).trans (feq (by decide : ¬ ((1 : Int32) = (0 : Int32)))).1) ?_
          show Steps p.tables e below (T49.setTop (mkF m 155 #[.val (.int fl), .val (.long ka), .second, .val (.long kb), .second, .val (.long kc), .second, .val (.ref sv), .val (.int (1 : Int32)), .val (.int (0 : Int32)), .val (.int (1 : Int32)), .val (.long kc), .second, .val (.int (1 : Int32)), .val (.long kb), .second, .val (.long kc), .second, .val (.int (0 : Int32))] [])) tgt
          refine XS.aload X49.here hx rfl (hb hby at_155) rfl rfl ?_
          show Steps p.tables e below (T49.setTop (mkF m 157 #[.val (.int fl), .val (.long ka), .second, .val (.long kb), .second, .val (.long kc), .second, .val (.ref sv), .val (.int (1 : Int32)), .val (.int (0 : Int32)), .val (.int (1 : Int32)), .val (.long kc), .second, .val (.int (1 : Int32)), .val (.long kb), .second, .val (.long kc), .second, .val (.int (0 : Int32))] [(.ref sv)])) tgt
          refine XS.iconst X49.here hx rfl (hb hby at_157) ?_
          exact k
        obtain ⟨cq50, kq50, q50a, q50b, q50c⟩ := isOf hZ rfl E_sv_49
        obtain ⟨v50, _, ⟨T50, L50, k50, n50⟩, -, Xc50, ⟨Lc50, hQ50, l50, y50, z50⟩, st50⟩ := X49.virtualBack hx (y := (⟨"com/example/chainwright/chainwright/KeySort", "number", "(I)I"⟩ : MethodName)) (z := (⟨"com/example/chainwright/chainwright/KeySort", "number", "(I)I"⟩ : MethodName)) hown (mvT hZ (hw _ (List.mem_of_getElem? (i := 22) rfl))) (mvT hZ (hw _ (List.mem_of_getElem? (i := 23) rfl))) (notFace_of_selects (args := #[]) (mvT hZ (hw _ (List.mem_of_getElem? (i := 25) rfl)))) (mvT hZ (hw _ (List.mem_of_getElem? (i := 25) rfl))) (mvT hZ (hw _ (List.mem_of_getElem? (i := 24) rfl))) (by decide) (backOf (W := 0) (rm4 l Z a0 hw [] sv (0 : Int32) nu_2 (if (own_bf (own_upJ (own_upJ (own_upJ (fun _ => 0) 1 ka) 0 kb) 1 kc) ((own_up (own_up (own_up (fun _ => 0) 0 (1 : Int32)) 1 (0 : Int32)) 0 (1 : Int32)) 1) ((own_up (own_up (own_up (fun _ => 0) 0 (1 : Int32)) 1 (0 : Int32)) 0 (1 : Int32)) 0) 0 1) = 0 then (own_up (own_up (fun _ => 0) 0 ((own_up (own_up (own_up (fun _ => 0) 0 (1 : Int32)) 1 (0 : Int32)) 0 (1 : Int32)) 0)) 1 ((own_up (own_up (own_up (fun _ => 0) 0 (1 : Int32)) 1 (0 : Int32)) 0 (1 : Int32)) 1)) else (own_up (own_up (fun _ => 0) 0 ((own_up (own_up (own_up (fun _ => 0) 0 (1 : Int32)) 1 (0 : Int32)) 0 (1 : Int32)) 1)) 1 ((own_up (own_up (own_up (fun _ => 0) 0 (1 : Int32)) 1 (0 : Int32)) 0 (1 : Int32)) 0))) 0 T49.heap n0 Zs49 F_sv_numbers_49 g49_0 (by decide) (by decide)) hZ (hw _ (List.mem_of_getElem? (i := 26) rfl)) (hw _ (List.mem_of_getElem? (i := 2) rfl)) (by decide) (by decide)) q50a q50c (g := (mkF m 158 #[.val (.int fl), .val (.long ka), .second, .val (.long kb), .second, .val (.long kc), .second, .val (.ref sv), .val (.int (1 : Int32)), .val (.int (0 : Int32)), .val (.int (1 : Int32)), .val (.long kc), .second, .val (.int (1 : Int32)), .val (.long kb), .second, .val (.long kc), .second, .val (.int (0 : Int32))] [(.int (0 : Int32)), (.ref sv)])) rfl (by rw [hml]; rfl) (Steps.refl _) (argsL := [(.int (0 : Int32))]) (rest := []) (lenOf pd_0_2 rfl) rfl (by show 2 * 0 + _ ≤ _; exact Nat.le_of_eq rfl) (hb hby at_158) (fun _ _ => ⟨rfl, rfl, (by decide : 4 + 0 ≤ _), (by decide : 9 + 0 ≤ _)⟩)
        dsimp only [Pt.U, Pt.locs, Pt.cells, Pt.slots] at Xc50 l50 y50 z50 st50 hQ50
        have X50 := own_cast Xc50 l50 y50 z50
        obtain ⟨ev50, N50q, K50⟩ := hQ50
        rw [ev50] at st50
        have N50 := Fr.app N49 N50q
        refine own_st (fun tgt k => st50.trans k) ?_
        show own_Go p e below _ (T50.setTop (mkF m 161 #[.val (.int fl), .val (.long ka), .second, .val (.long kb), .second, .val (.long kc), .second, .val (.ref sv), .val (.int (1 : Int32)), .val (.int (0 : Int32)), .val (.int (1 : Int32)), .val (.long kc), .second, .val (.int (1 : Int32)), .val (.long kb), .second, .val (.long kc), .second, .val (.int (0 : Int32))] [(.int ((if (own_bf (own_upJ (own_upJ (own_upJ (fun _ => 0) 1 ka) 0 kb) 1 kc) ((own_up (own_up (own_up (fun _ => 0) 0 (1 : Int32)) 1 (0 : Int32)) 0 (1 : Int32)) 1) ((own_up (own_up (own_up (fun _ => 0) 0 (1 : Int32)) 1 (0 : Int32)) 0 (1 : Int32)) 0) 0 1) = 0 then (own_up (own_up (fun _ => 0) 0 ((own_up (own_up (own_up (fun _ => 0) 0 (1 : Int32)) 1 (0 : Int32)) 0 (1 : Int32)) 0)) 1 ((own_up (own_up (own_up (fun _ => 0) 0 (1 : Int32)) 1 (0 : Int32)) 0 (1 : Int32)) 1)) else (own_up (own_up (fun _ => 0) 0 ((own_up (own_up (own_up (fun _ => 0) 0 (1 : Int32)) 1 (0 : Int32)) 0 (1 : Int32)) 1)) 1 ((own_up (own_up (own_up (fun _ => 0) 0 (1 : Int32)) 1 (0 : Int32)) 0 (1 : Int32)) 0))) 0))]))
        refine own_st (V := T50.setTop (mkF m 169 #[.val (.int fl), .val (.long ka), .second, .val (.long kb), .second, .val (.long kc), .second, .val (.ref sv), .val (.int (1 : Int32)), .val (.int (0 : Int32)), .val (.int (1 : Int32)), .val (.long kc), .second, .val (.int (1 : Int32)), .val (.long kb), .second, .val (.long kc), .second, .val (.int (0 : Int32))] [(.int (1 : Int32)), (.ref sv)])) (fun tgt k => ?_) ?_
        · show Steps p.tables e below (T50.setTop (mkF m 161 #[.val (.int fl), .val (.long ka), .second, .val (.long kb), .second, .val (.long kc), .second, .val (.ref sv), .val (.int (1 : Int32)), .val (.int (0 : Int32)), .val (.int (1 : Int32)), .val (.long kc), .second, .val (.int (1 : Int32)), .val (.long kb), .second, .val (.long kc), .second, .val (.int (0 : Int32))] [(.int ((if (own_bf (own_upJ (own_upJ (own_upJ (fun _ => 0) 1 ka) 0 kb) 1 kc) ((own_up (own_up (own_up (fun _ => 0) 0 (1 : Int32)) 1 (0 : Int32)) 0 (1 : Int32)) 1) ((own_up (own_up (own_up (fun _ => 0) 0 (1 : Int32)) 1 (0 : Int32)) 0 (1 : Int32)) 0) 0 1) = 0 then (own_up (own_up (fun _ => 0) 0 ((own_up (own_up (own_up (fun _ => 0) 0 (1 : Int32)) 1 (0 : Int32)) 0 (1 : Int32)) 0)) 1 ((own_up (own_up (own_up (fun _ => 0) 0 (1 : Int32)) 1 (0 : Int32)) 0 (1 : Int32)) 1)) else (own_up (own_up (fun _ => 0) 0 ((own_up (own_up (own_up (fun _ => 0) 0 (1 : Int32)) 1 (0 : Int32)) 0 (1 : Int32)) 1)) 1 ((own_up (own_up (own_up (fun _ => 0) 0 (1 : Int32)) 1 (0 : Int32)) 0 (1 : Int32)) 0))) 0))])) tgt
          refine XS.iload X50.here hx rfl (hb hby at_161) rfl ?_
          show Steps p.tables e below (T50.setTop (mkF m 163 #[.val (.int fl), .val (.long ka), .second, .val (.long kb), .second, .val (.long kc), .second, .val (.ref sv), .val (.int (1 : Int32)), .val (.int (0 : Int32)), .val (.int (1 : Int32)), .val (.long kc), .second, .val (.int (1 : Int32)), .val (.long kb), .second, .val (.long kc), .second, .val (.int (0 : Int32))] [(.int (0 : Int32)), (.int ((if (own_bf (own_upJ (own_upJ (own_upJ (fun _ => 0) 1 ka) 0 kb) 1 kc) ((own_up (own_up (own_up (fun _ => 0) 0 (1 : Int32)) 1 (0 : Int32)) 0 (1 : Int32)) 1) ((own_up (own_up (own_up (fun _ => 0) 0 (1 : Int32)) 1 (0 : Int32)) 0 (1 : Int32)) 0) 0 1) = 0 then (own_up (own_up (fun _ => 0) 0 ((own_up (own_up (own_up (fun _ => 0) 0 (1 : Int32)) 1 (0 : Int32)) 0 (1 : Int32)) 0)) 1 ((own_up (own_up (own_up (fun _ => 0) 0 (1 : Int32)) 1 (0 : Int32)) 0 (1 : Int32)) 1)) else (own_up (own_up (fun _ => 0) 0 ((own_up (own_up (own_up (fun _ => 0) 0 (1 : Int32)) 1 (0 : Int32)) 0 (1 : Int32)) 1)) 1 ((own_up (own_up (own_up (fun _ => 0) 0 (1 : Int32)) 1 (0 : Int32)) 0 (1 : Int32)) 0))) 0))])) tgt
          refine XS.icmpNo X50.here hx rfl (hb hby at_163) rfl (teq (by simp [own_bf, own_b10, own_b01, own_up, own_upJ, hc134])).2 ?_
          show Steps p.tables e below (T50.setTop (mkF m 166 #[.val (.int fl), .val (.long ka), .second, .val (.long kb), .second, .val (.long kc), .second, .val (.ref sv), .val (.int (1 : Int32)), .val (.int (0 : Int32)), .val (.int (1 : Int32)), .val (.long kc), .second, .val (.int (1 : Int32)), .val (.long kb), .second, .val (.long kc), .second, .val (.int (0 : Int32))] [])) tgt
          refine XS.aload X50.here hx rfl (hb hby at_166) rfl rfl ?_
          show Steps p.tables e below (T50.setTop (mkF m 168 #[.val (.int fl), .val (.long ka), .second, .val (.long kb), .second, .val (.long kc), .second, .val (.ref sv), .val (.int (1 : Int32)), .val (.int (0 : Int32)), .val (.int (1 : Int32)), .val (.long kc), .second, .val (.int (1 : Int32)), .val (.long kb), .second, .val (.long kc), .second, .val (.int (0 : Int32))] [(.ref sv)])) tgt
          refine XS.iconst X50.here hx rfl (hb hby at_168) ?_
          exact k
        obtain ⟨cq51, kq51, q51a, q51b, q51c⟩ := isOf hZ K50 E_sv_49
        obtain ⟨v51, _, ⟨T51, L51, k51, n51⟩, -, Xc51, ⟨Lc51, hQ51, l51, y51, z51⟩, st51⟩ := X50.virtualBack hx (y := (⟨"com/example/chainwright/chainwright/KeySort", "number", "(I)I"⟩ : MethodName)) (z := (⟨"com/example/chainwright/chainwright/KeySort", "number", "(I)I"⟩ : MethodName)) hown (mvT hZ (hw _ (List.mem_of_getElem? (i := 22) rfl))) (mvT hZ (hw _ (List.mem_of_getElem? (i := 23) rfl))) (notFace_of_selects (args := #[]) (mvT hZ (hw _ (List.mem_of_getElem? (i := 25) rfl)))) (mvT hZ (hw _ (List.mem_of_getElem? (i := 25) rfl))) (mvT hZ (hw _ (List.mem_of_getElem? (i := 24) rfl))) (by decide) (backOf (W := 0) (rm4 l Z a0 hw [] sv (1 : Int32) nu_2 (if (own_bf (own_upJ (own_upJ (own_upJ (fun _ => 0) 1 ka) 0 kb) 1 kc) ((own_up (own_up (own_up (fun _ => 0) 0 (1 : Int32)) 1 (0 : Int32)) 0 (1 : Int32)) 1) ((own_up (own_up (own_up (fun _ => 0) 0 (1 : Int32)) 1 (0 : Int32)) 0 (1 : Int32)) 0) 0 1) = 0 then (own_up (own_up (fun _ => 0) 0 ((own_up (own_up (own_up (fun _ => 0) 0 (1 : Int32)) 1 (0 : Int32)) 0 (1 : Int32)) 0)) 1 ((own_up (own_up (own_up (fun _ => 0) 0 (1 : Int32)) 1 (0 : Int32)) 0 (1 : Int32)) 1)) else (own_up (own_up (fun _ => 0) 0 ((own_up (own_up (own_up (fun _ => 0) 0 (1 : Int32)) 1 (0 : Int32)) 0 (1 : Int32)) 1)) 1 ((own_up (own_up (own_up (fun _ => 0) 0 (1 : Int32)) 1 (0 : Int32)) 0 (1 : Int32)) 0))) 1 T49.heap n0 Zs49 F_sv_numbers_49 g49_0 (by decide) (by decide)) hZ (hw _ (List.mem_of_getElem? (i := 26) rfl)) (hw _ (List.mem_of_getElem? (i := 2) rfl)) (by decide) (by decide)) q51a q51c (g := (mkF m 169 #[.val (.int fl), .val (.long ka), .second, .val (.long kb), .second, .val (.long kc), .second, .val (.ref sv), .val (.int (1 : Int32)), .val (.int (0 : Int32)), .val (.int (1 : Int32)), .val (.long kc), .second, .val (.int (1 : Int32)), .val (.long kb), .second, .val (.long kc), .second, .val (.int (0 : Int32))] [(.int (1 : Int32)), (.ref sv)])) rfl (by rw [hml]; rfl) (Steps.refl _) (argsL := [(.int (1 : Int32))]) (rest := []) (lenOf pd_0_2 rfl) rfl (by show 2 * 0 + _ ≤ _; exact Nat.le_of_eq rfl) (hb hby at_169) (fun _ _ => ⟨rfl, K50, (by decide : 4 + 0 ≤ _), (by decide : 9 + 0 ≤ _)⟩)
        dsimp only [Pt.U, Pt.locs, Pt.cells, Pt.slots] at Xc51 l51 y51 z51 st51 hQ51
        have X51 := own_cast Xc51 l51 y51 z51
        obtain ⟨ev51, N51q, K51⟩ := hQ51
        rw [ev51] at st51
        have N51 := Fr.app N50 N51q
        refine own_st (fun tgt k => st51.trans k) ?_
        show own_Go p e below _ (T51.setTop (mkF m 172 #[.val (.int fl), .val (.long ka), .second, .val (.long kb), .second, .val (.long kc), .second, .val (.ref sv), .val (.int (1 : Int32)), .val (.int (0 : Int32)), .val (.int (1 : Int32)), .val (.long kc), .second, .val (.int (1 : Int32)), .val (.long kb), .second, .val (.long kc), .second, .val (.int (0 : Int32))] [(.int ((if (own_bf (own_upJ (own_upJ (own_upJ (fun _ => 0) 1 ka) 0 kb) 1 kc) ((own_up (own_up (own_up (fun _ => 0) 0 (1 : Int32)) 1 (0 : Int32)) 0 (1 : Int32)) 1) ((own_up (own_up (own_up (fun _ => 0) 0 (1 : Int32)) 1 (0 : Int32)) 0 (1 : Int32)) 0) 0 1) = 0 then (own_up (own_up (fun _ => 0) 0 ((own_up (own_up (own_up (fun _ => 0) 0 (1 : Int32)) 1 (0 : Int32)) 0 (1 : Int32)) 0)) 1 ((own_up (own_up (own_up (fun _ => 0) 0 (1 : Int32)) 1 (0 : Int32)) 0 (1 : Int32)) 1)) else (own_up (own_up (fun _ => 0) 0 ((own_up (own_up (own_up (fun _ => 0) 0 (1 : Int32)) 1 (0 : Int32)) 0 (1 : Int32)) 1)) 1 ((own_up (own_up (own_up (fun _ => 0) 0 (1 : Int32)) 1 (0 : Int32)) 0 (1 : Int32)) 0))) 1))]))
        refine own_st (V := T51.setTop (mkF m 176 #[.val (.int fl), .val (.long ka), .second, .val (.long kb), .second, .val (.long kc), .second, .val (.ref sv), .val (.int (1 : Int32)), .val (.int (0 : Int32)), .val (.int (1 : Int32)), .val (.long kc), .second, .val (.int (1 : Int32)), .val (.long kb), .second, .val (.long kc), .second, .val (.int (0 : Int32))] [(.int ((1 : Int32) - (0 : Int32))), (.int ((if (own_bf (own_upJ (own_upJ (own_upJ (fun _ => 0) 1 ka) 0 kb) 1 kc) ((own_up (own_up (own_up (fun _ => 0) 0 (1 : Int32)) 1 (0 : Int32)) 0 (1 : Int32)) 1) ((own_up (own_up (own_up (fun _ => 0) 0 (1 : Int32)) 1 (0 : Int32)) 0 (1 : Int32)) 0) 0 1) = 0 then (own_up (own_up (fun _ => 0) 0 ((own_up (own_up (own_up (fun _ => 0) 0 (1 : Int32)) 1 (0 : Int32)) 0 (1 : Int32)) 0)) 1 ((own_up (own_up (own_up (fun _ => 0) 0 (1 : Int32)) 1 (0 : Int32)) 0 (1 : Int32)) 1)) else (own_up (own_up (fun _ => 0) 0 ((own_up (own_up (own_up (fun _ => 0) 0 (1 : Int32)) 1 (0 : Int32)) 0 (1 : Int32)) 1)) 1 ((own_up (own_up (own_up (fun _ => 0) 0 (1 : Int32)) 1 (0 : Int32)) 0 (1 : Int32)) 0))) 1))])) (fun tgt k => ?_) ?_
        · show Steps p.tables e below (T51.setTop (mkF m 172 #[.val (.int fl), .val (.long ka), .second, .val (.long kb), .second, .val (.long kc), .second, .val (.ref sv), .val (.int (1 : Int32)), .val (.int (0 : Int32)), .val (.int (1 : Int32)), .val (.long kc), .second, .val (.int (1 : Int32)), .val (.long kb), .second, .val (.long kc), .second, .val (.int (0 : Int32))] [(.int ((if (own_bf (own_upJ (own_upJ (own_upJ (fun _ => 0) 1 ka) 0 kb) 1 kc) ((own_up (own_up (own_up (fun _ => 0) 0 (1 : Int32)) 1 (0 : Int32)) 0 (1 : Int32)) 1) ((own_up (own_up (own_up (fun _ => 0) 0 (1 : Int32)) 1 (0 : Int32)) 0 (1 : Int32)) 0) 0 1) = 0 then (own_up (own_up (fun _ => 0) 0 ((own_up (own_up (own_up (fun _ => 0) 0 (1 : Int32)) 1 (0 : Int32)) 0 (1 : Int32)) 0)) 1 ((own_up (own_up (own_up (fun _ => 0) 0 (1 : Int32)) 1 (0 : Int32)) 0 (1 : Int32)) 1)) else (own_up (own_up (fun _ => 0) 0 ((own_up (own_up (own_up (fun _ => 0) 0 (1 : Int32)) 1 (0 : Int32)) 0 (1 : Int32)) 1)) 1 ((own_up (own_up (own_up (fun _ => 0) 0 (1 : Int32)) 1 (0 : Int32)) 0 (1 : Int32)) 0))) 1))])) tgt
          refine XS.iconst X51.here hx rfl (hb hby at_172) ?_
          show Steps p.tables e below (T51.setTop (mkF m 173 #[.val (.int fl), .val (.long ka), .second, .val (.long kb), .second, .val (.long kc), .second, .val (.ref sv), .val (.int (1 : Int32)), .val (.int (0 : Int32)), .val (.int (1 : Int32)), .val (.long kc), .second, .val (.int (1 : Int32)), .val (.long kb), .second, .val (.long kc), .second, .val (.int (0 : Int32))] [(.int (1 : Int32)), (.int ((if (own_bf (own_upJ (own_upJ (own_upJ (fun _ => 0) 1 ka) 0 kb) 1 kc) ((own_up (own_up (own_up (fun _ => 0) 0 (1 : Int32)) 1 (0 : Int32)) 0 (1 : Int32)) 1) ((own_up (own_up (own_up (fun _ => 0) 0 (1 : Int32)) 1 (0 : Int32)) 0 (1 : Int32)) 0) 0 1) = 0 then (own_up (own_up (fun _ => 0) 0 ((own_up (own_up (own_up (fun _ => 0) 0 (1 : Int32)) 1 (0 : Int32)) 0 (1 : Int32)) 0)) 1 ((own_up (own_up (own_up (fun _ => 0) 0 (1 : Int32)) 1 (0 : Int32)) 0 (1 : Int32)) 1)) else (own_up (own_up (fun _ => 0) 0 ((own_up (own_up (own_up (fun _ => 0) 0 (1 : Int32)) 1 (0 : Int32)) 0 (1 : Int32)) 1)) 1 ((own_up (own_up (own_up (fun _ => 0) 0 (1 : Int32)) 1 (0 : Int32)) 0 (1 : Int32)) 0))) 1))])) tgt
          refine XS.iload X51.here hx rfl (hb hby at_173) rfl ?_
          show Steps p.tables e below (T51.setTop (mkF m 175 #[.val (.int fl), .val (.long ka), .second, .val (.long kb), .second, .val (.long kc), .second, .val (.ref sv), .val (.int (1 : Int32)), .val (.int (0 : Int32)), .val (.int (1 : Int32)), .val (.long kc), .second, .val (.int (1 : Int32)), .val (.long kb), .second, .val (.long kc), .second, .val (.int (0 : Int32))] [(.int (0 : Int32)), (.int (1 : Int32)), (.int ((if (own_bf (own_upJ (own_upJ (own_upJ (fun _ => 0) 1 ka) 0 kb) 1 kc) ((own_up (own_up (own_up (fun _ => 0) 0 (1 : Int32)) 1 (0 : Int32)) 0 (1 : Int32)) 1) ((own_up (own_up (own_up (fun _ => 0) 0 (1 : Int32)) 1 (0 : Int32)) 0 (1 : Int32)) 0) 0 1) = 0 then (own_up (own_up (fun _ => 0) 0 ((own_up (own_up (own_up (fun _ => 0) 0 (1 : Int32)) 1 (0 : Int32)) 0 (1 : Int32)) 0)) 1 ((own_up (own_up (own_up (fun _ => 0) 0 (1 : Int32)) 1 (0 : Int32)) 0 (1 : Int32)) 1)) else (own_up (own_up (fun _ => 0) 0 ((own_up (own_up (own_up (fun _ => 0) 0 (1 : Int32)) 1 (0 : Int32)) 0 (1 : Int32)) 1)) 1 ((own_up (own_up (own_up (fun _ => 0) 0 (1 : Int32)) 1 (0 : Int32)) 0 (1 : Int32)) 0))) 1))])) tgt
          refine XS.isub X51.here hx rfl (hb hby at_175) rfl ?_
          exact k
        rw [show ((1 : Int32) - (0 : Int32)) = (1 : Int32) from by decide]
        refine own_st (V := T51.setTop (mkF m 184 #[.val (.int fl), .val (.long ka), .second, .val (.long kb), .second, .val (.long kc), .second, .val (.ref sv), .val (.int (1 : Int32)), .val (.int (0 : Int32)), .val (.int (1 : Int32)), .val (.long kc), .second, .val (.int (1 : Int32)), .val (.long kb), .second, .val (.long kc), .second, .val (.int (0 : Int32))] [(.int (1 : Int32))])) (fun tgt k => ?_) ?_
        · show Steps p.tables e below (T51.setTop (mkF m 176 #[.val (.int fl), .val (.long ka), .second, .val (.long kb), .second, .val (.long kc), .second, .val (.ref sv), .val (.int (1 : Int32)), .val (.int (0 : Int32)), .val (.int (1 : Int32)), .val (.long kc), .second, .val (.int (1 : Int32)), .val (.long kb), .second, .val (.long kc), .second, .val (.int (0 : Int32))] [(.int (1 : Int32)), (.int ((if (own_bf (own_upJ (own_upJ (own_upJ (fun _ => 0) 1 ka) 0 kb) 1 kc) ((own_up (own_up (own_up (fun _ => 0) 0 (1 : Int32)) 1 (0 : Int32)) 0 (1 : Int32)) 1) ((own_up (own_up (own_up (fun _ => 0) 0 (1 : Int32)) 1 (0 : Int32)) 0 (1 : Int32)) 0) 0 1) = 0 then (own_up (own_up (fun _ => 0) 0 ((own_up (own_up (own_up (fun _ => 0) 0 (1 : Int32)) 1 (0 : Int32)) 0 (1 : Int32)) 0)) 1 ((own_up (own_up (own_up (fun _ => 0) 0 (1 : Int32)) 1 (0 : Int32)) 0 (1 : Int32)) 1)) else (own_up (own_up (fun _ => 0) 0 ((own_up (own_up (own_up (fun _ => 0) 0 (1 : Int32)) 1 (0 : Int32)) 0 (1 : Int32)) 1)) 1 ((own_up (own_up (own_up (fun _ => 0) 0 (1 : Int32)) 1 (0 : Int32)) 0 (1 : Int32)) 0))) 1))])) tgt
          refine XS.icmpNo X51.here hx rfl (hb hby at_176) rfl (teq (by simp [own_bf, own_b10, own_b01, own_up, own_upJ, hc134])).2 ?_
          show Steps p.tables e below (T51.setTop (mkF m 179 #[.val (.int fl), .val (.long ka), .second, .val (.long kb), .second, .val (.long kc), .second, .val (.ref sv), .val (.int (1 : Int32)), .val (.int (0 : Int32)), .val (.int (1 : Int32)), .val (.long kc), .second, .val (.int (1 : Int32)), .val (.long kb), .second, .val (.long kc), .second, .val (.int (0 : Int32))] [])) tgt
          refine XS.iconst X51.here hx rfl (hb hby at_179) ?_
          show Steps p.tables e below (T51.setTop (mkF m 180 #[.val (.int fl), .val (.long ka), .second, .val (.long kb), .second, .val (.long kc), .second, .val (.ref sv), .val (.int (1 : Int32)), .val (.int (0 : Int32)), .val (.int (1 : Int32)), .val (.long kc), .second, .val (.int (1 : Int32)), .val (.long kb), .second, .val (.long kc), .second, .val (.int (0 : Int32))] [(.int (1 : Int32))])) tgt
          refine XS.goto X51.here hx rfl (pc0 := 180) (pc' := 184) rfl (hb hby at_180) (by decide) (by decide) ?_
          exact k
        refine own_retN X51 hx hlk (t := .boolean) (z' := (1 : Int32)) Bd.returns (by simp) rfl (hb hby at_184) ?_ (by decide) (by decide)
        show Q0 Z fl ka kb kc h0 n0 (some (.int (1 : Int32))) T51.heap _
        rw [K51]
        exact ⟨rfl, N51⟩
set_option maxRecDepth 65536 in
set_option maxHeartbeats 40000000 in
theorem comes_1 {Post : Tables → Env → Array Value → State → Outcome → State → Prop} (hpost : ∀ tb e args s v u, (limb_1_1.after args s (.returned v) u = true ∧ limb_1_2.after args s (.returned v) u = true ∧ True) → FrameEnd s (.returned v) u (Jvm.fieldLocs frame_1_writes args s ++ Jvm.arrayLocs frame_1_arrays args s ++ Jvm.staticLocs frame_1_statics s) 16 128 → Post tb e args s (.returned v) u) :
    ArmFor flags0 classFile x code maxLocals ret World_1 tables_1 room_1 Calls_1 rest_1 Pre_1 Post := by
  intro l hfl _ _ p e ha hc hk s m args below hf hA hF happ hP
  obtain ⟨hcalls, hrest, hpre⟩ := hP
  obtain ⟨-, -, -, hnamed, -, -, -, hat⟩ := (Spec.applies_iff hf).mp happ
  obtain ⟨hg, hn⟩ := and_e (Cond.before_iff.mp (show (Jvm.Cond.and given_1 narrow_1).before args s = true from hpre))
  obtain ⟨hcount, g0⟩ := and_e hg
  obtain ⟨a0, g1⟩ := and_e g0
  obtain ⟨a1, g2⟩ := and_e g1
  obtain ⟨a2, g3⟩ := and_e g2
  have a3 := g3
  obtain ⟨w0, w1, w2, w3, rfl⟩ : ∃ w0 w1 w2 w3 : Value, args = #[w0, w1, w2, w3] := by
    have hs : args.size = 4 := by simpa [Cond.value, given_1] using hcount
    obtain ⟨L⟩ := args
    match L, hs with
    | [w0, w1, w2, w3], _ => exact ⟨w0, w1, w2, w3, rfl⟩
  have hw := fun d (hd : d ∈ tables_1) => atoms_spec (ws := Jvm.Cond.code x code maxLocals ret :: tables_1) hat d (List.mem_cons_of_mem _ hd)
  obtain ⟨i0, ei0⟩ := is_v a0
  obtain rfl : w0 = (.int i0) := Option.some.inj ei0
  obtain ⟨i1, ei1⟩ := isL_v a1
  obtain rfl : w1 = (.long i1) := Option.some.inj ei1
  obtain ⟨i2, ei2⟩ := isL_v a2
  obtain rfl : w2 = (.long i2) := Option.some.inj ei2
  obtain ⟨i3, ei3⟩ := isL_v a3
  obtain rfl : w3 = (.long i3) := Option.some.inj ei3
  obtain ⟨n, o, h1, h2, h3, _, L, rfl, ⟨rfl, N⟩, hq⟩ := rm0 l s _ hw tables_1 i0 i1 i2 i3 s.heap s.heap.size (Nat.le_refl _) p e ha hc hk s m _ below hf ((Spec.applies_iff_loose hf).mp happ).1 ⟨rfl, State.Warmed39.refl s, rfl⟩ trivial
  refine ⟨n, _, h1, h2, h3, hpost _ _ _ _ _ _ ⟨Cond.after_iff.mpr rfl, Cond.after_iff.mpr (eq_i res_at (Term.int_eval (1)) rfl), trivial⟩ ⟨hq.1, hq.2.1, (hq.2.2.sift fun y hy => Or.inr (N y hy)).mono (by decide) (by decide)⟩⟩
theorem main_1_1 : Claimed_1_1 := comes_1 fun _ _ _ _ _ _ h hF => ⟨h.1, hF⟩
theorem main_1_2 : Claimed_1_2 := comes_1 fun _ _ _ _ _ _ h hF => ⟨h.2.1, hF⟩
end Jvm.Pilot.@@N@@
namespace Jvm.Pilot.@@N@@
open Jvm Jvm.ClassFile Sem Op Lib Jvm.Free Jvm.Stand Jvm.Pilot.@@N@@.Jvm.D
/-! MADE BY PROGRAM (witnessworld.py) out of the Statement's table words and the real class files: 13 classes; the members and pool entries that the words name. The judged class is class 1, her method 1. -/
namespace start1
open Jvm.ClassFile
def u (s : String) : CpInfo := .utf8 (stringToUtf16 s)
/-- a pool by its gaps: so many unusable entries, then the entry; so many at the end -/
def gap : Nat → List CpInfo → List CpInfo
  | 0, r => r
  | n + 1, r => .unusable :: gap n r
def poolList (es : List (Nat × CpInfo)) (last : Nat) : List CpInfo := es.foldr (fun e r => gap e.1 (e.2 :: r)) (gap last [])
def pool (es : List (Nat × CpInfo)) (last : Nat) : Array CpInfo := ⟨poolList es last⟩
def fileOf (pool : Array CpInfo) (this : Nat) (attrs : Array Attribute := #[]) (ms : Array MethodInfo := #[]) (fl : Nat := 33) (sup : Nat := 0) (ifs : Array Nat := #[]) (fds : Array FieldInfo := #[]) : ClassFile where
  minorVersion := 0
  majorVersion := 65
  constantPool := pool
  accessFlags := fl
  thisClass := this
  superClass := sup
  interfaces := ifs
  fields := fds
  methods := ms
  attributes := attrs
def plain (name : String) (sup : Option ClassId) : Class where
  name := name
  kind := .ordinary
  loader := none
  accessFlags := 33
  super := sup
  interfaces := #[]
  cf := none
  fields := #[]
  methods := #[]
  instanceTypes := #[]
  staticTypes := #[]
  resolved := #[]
  callSites := []
  init := .initialized
  statics := none
  mirror := none

def pool0 : Array CpInfo := pool [(5, u "<init>"), (0, u "()V"), (1, .class_ 10), (1, u "java/lang/Object")] 113

def k0c0 : Code := { maxStack := 0, maxLocals := 1, code := object_method_1_code, exceptionTable := #[], attributes := #[] }
def k0m0 : Method := { name := "<init>", desc := "()V", sig := { parameters := [], returnType := none }, accessFlags := 1, code := some k0c0 }
/-- java/lang/Object -/
def k0 : Class := { plain "java/lang/Object" none with
  accessFlags := 33
  interfaces := #[]
  cf := some (fileOf pool0 8 #[] #[{ accessFlags := 1, nameIndex := 5, descriptorIndex := 6, attributes := #[] }] 33 0 #[] #[])
  fields := #[]
  methods := #[k0m0]
  instanceTypes := #[]
  staticTypes := #[]
  resolved := Array.replicate 124 none
  statics := none }

def pool1 : Array CpInfo := pool [(2, .class_ 4), (1, u "java/lang/Object"), (0, u "<init>"), (0, u "()V"), (0, .class_ 8), (0, u "com/example/chainwright/chainwright/KeySort"), (0, .methodref 7 10), (0, .nameAndType 5 11), (0, u "(I)V"), (0, .methodref 7 13), (0, .nameAndType 14 15), (0, u "put"), (0, u "(IIJ)V"), (0, .methodref 7 17), (0, .nameAndType 18 19), (0, u "number"), (0, u "(I)I"), (0, .methodref 7 21), (0, .nameAndType 22 11), (0, u "sort"), (0, .class_ 24), (0, u "com/example/chainwright/chainwright/KeySortPutPinLaw"), (2, u "law"), (0, u "(IJJJ)Z")] 3

def k1m0 : Method := { name := "<init>", desc := "()V", sig := { parameters := [], returnType := none }, accessFlags := 1, code := none }
def k1c1 : Code := { maxStack := 5, maxLocals := 19, code := code, exceptionTable := #[], attributes := #[] }
def k1m1 : Method := { name := "law", desc := "(IJJJ)Z", sig := { parameters := [.int, .long, .long, .long], returnType := some .boolean }, accessFlags := 9, code := some k1c1 }
/-- com/example/chainwright/chainwright/KeySortPutPinLaw -/
def k1 : Class := { plain "com/example/chainwright/chainwright/KeySortPutPinLaw" (some 0) with
  accessFlags := 49
  interfaces := #[]
  cf := some (fileOf pool1 23 #[] #[{ accessFlags := 1, nameIndex := 5, descriptorIndex := 6, attributes := #[] }, { accessFlags := 9, nameIndex := 27, descriptorIndex := 28, attributes := #[] }] 49 2 #[] #[])
  fields := #[]
  methods := #[k1m0, k1m1]
  instanceTypes := #[]
  staticTypes := #[]
  resolved := Array.replicate 32 none
  statics := none }

def pool2 : Array CpInfo := pool [(1, .methodref 2 3), (0, .class_ 4), (0, .nameAndType 5 6), (0, u "java/lang/Object"), (0, u "<init>"), (0, u "()V"), (0, .fieldref 8 9), (0, .class_ 10), (0, .nameAndType 11 12), (0, u "com/example/chainwright/chainwright/KeySort"), (0, u "numbers"), (0, u "[I"), (0, .fieldref 8 14), (0, .nameAndType 15 16), (0, u "keys"), (0, u "[J"), (0, .fieldref 8 18), (0, .nameAndType 19 12), (0, u "room"), (0, .methodref 21 22), (0, .class_ 23), (0, .nameAndType 24 25), (0, u "java/lang/Math"), (0, u "min"), (0, u "(II)I"), (0, .methodref 8 27), (0, .nameAndType 28 29), (0, u "before"), (0, u "(II)Z"), (0, .methodref 31 32), (0, .class_ 33), (0, .nameAndType 34 35), (0, u "java/lang/System"), (0, u "arraycopy"), (0, u "(Ljava/lang/Object;ILjava/lang/Object;II)V"), (6, u "(I)V"), (2, u "put"), (0, u "(IIJ)V"), (0, u "sort"), (2, u "number"), (0, u "(I)I")] 4

def k2c0 : Code := { maxStack := 2, maxLocals := 2, code := prog_11_method_1_code, exceptionTable := #[], attributes := #[] }
def k2m0 : Method := { name := "<init>", desc := "(I)V", sig := { parameters := [.int], returnType := none }, accessFlags := 0, code := some k2c0 }
def k2c1 : Code := { maxStack := 4, maxLocals := 5, code := prog_11_method_2_code, exceptionTable := #[], attributes := #[] }
def k2m1 : Method := { name := "put", desc := "(IIJ)V", sig := { parameters := [.int, .int, .long], returnType := none }, accessFlags := 0, code := some k2c1 }
def k2c2 : Code := { maxStack := 5, maxLocals := 12, code := prog_11_method_3_code, exceptionTable := #[], attributes := #[] }
def k2m2 : Method := { name := "sort", desc := "(I)V", sig := { parameters := [.int], returnType := none }, accessFlags := 0, code := some k2c2 }
def k2c3 : Code := { maxStack := 2, maxLocals := 2, code := prog_11_method_4_code, exceptionTable := #[], attributes := #[] }
def k2m3 : Method := { name := "number", desc := "(I)I", sig := { parameters := [.int], returnType := some .int }, accessFlags := 0, code := some k2c3 }
def k2c4 : Code := { maxStack := 4, maxLocals := 3, code := prog_11_method_6_code, exceptionTable := #[], attributes := #[] }
def k2m4 : Method := { name := "before", desc := "(II)Z", sig := { parameters := [.int, .int], returnType := some .boolean }, accessFlags := 2, code := some k2c4 }
/-- com/example/chainwright/chainwright/KeySort -/
def k2 : Class := { plain "com/example/chainwright/chainwright/KeySort" (some 0) with
  accessFlags := 48
  interfaces := #[]
  cf := some (fileOf pool2 8 #[] #[{ accessFlags := 0, nameIndex := 5, descriptorIndex := 42, attributes := #[] }, { accessFlags := 0, nameIndex := 45, descriptorIndex := 46, attributes := #[] }, { accessFlags := 0, nameIndex := 47, descriptorIndex := 42, attributes := #[] }, { accessFlags := 0, nameIndex := 50, descriptorIndex := 51, attributes := #[] }, { accessFlags := 2, nameIndex := 28, descriptorIndex := 29, attributes := #[] }] 48 2 #[] #[{ accessFlags := 18, nameIndex := 11, descriptorIndex := 12, attributes := #[] }, { accessFlags := 18, nameIndex := 15, descriptorIndex := 16, attributes := #[] }, { accessFlags := 18, nameIndex := 19, descriptorIndex := 12, attributes := #[] }])
  fields := #[{ name := "numbers", type := (.array .int), accessFlags := 18, slot := 0, constantValue := 0 }, { name := "keys", type := (.array .long), accessFlags := 18, slot := 1, constantValue := 0 }, { name := "room", type := (.array .int), accessFlags := 18, slot := 2, constantValue := 0 }]
  methods := #[k2m0, k2m1, k2m2, k2m3, k2m4]
  instanceTypes := #[(.array .int), (.array .long), (.array .int)]
  staticTypes := #[]
  resolved := Array.replicate 56 none
  statics := none }

def pool3 : Array CpInfo := pool [(1, .class_ 2), (0, u "java/lang/Math"), (1, .class_ 6), (1, u "java/lang/Object"), (0, u "<init>"), (0, u "()V"), (89, .class_ 100), (1, u "java/lang/Math$RandomNumberGeneratorHolder"), (71, u "negativeZeroFloatBits"), (0, u "J"), (2, u "negativeZeroDoubleBits"), (24, u "min"), (43, u "$assertionsDisabled"), (0, u "Z"), (88, u "(II)I"), (2, u "twoToTheDoubleScaleDown"), (0, u "D"), (4, u "twoToTheDoubleScaleUp"), (9, u "E"), (3, u "PI"), (2, u "TAU"), (2, u "DEGREES_TO_RADIANS"), (0, u "RADIANS_TO_DEGREES")] 94

def k3m0 : Method := { name := "<init>", desc := "()V", sig := { parameters := [], returnType := none }, accessFlags := 2, code := none }
def k3c1 : Code := { maxStack := 2, maxLocals := 2, code := jdk_29_method_69_code, exceptionTable := #[], attributes := #[] }
def k3m1 : Method := { name := "min", desc := "(II)I", sig := { parameters := [.int, .int], returnType := some .int }, accessFlags := 9, code := some k3c1 }
/-- java/lang/Math -/
def k3 : Class := { plain "java/lang/Math" (some 0) with
  accessFlags := 49
  interfaces := #[]
  cf := some (fileOf pool3 1 #[.nestMembers #[98]] #[{ accessFlags := 2, nameIndex := 7, descriptorIndex := 8, attributes := #[] }, { accessFlags := 9, nameIndex := 201, descriptorIndex := 335, attributes := #[] }] 49 4 #[] #[{ accessFlags := 25, nameIndex := 354, descriptorIndex := 339, attributes := #[] }, { accessFlags := 25, nameIndex := 358, descriptorIndex := 339, attributes := #[] }, { accessFlags := 25, nameIndex := 361, descriptorIndex := 339, attributes := #[] }, { accessFlags := 26, nameIndex := 364, descriptorIndex := 339, attributes := #[] }, { accessFlags := 26, nameIndex := 365, descriptorIndex := 339, attributes := #[] }, { accessFlags := 26, nameIndex := 172, descriptorIndex := 173, attributes := #[] }, { accessFlags := 26, nameIndex := 176, descriptorIndex := 173, attributes := #[] }, { accessFlags := 8, nameIndex := 344, descriptorIndex := 339, attributes := #[] }, { accessFlags := 8, nameIndex := 338, descriptorIndex := 339, attributes := #[] }, { accessFlags := 4120, nameIndex := 245, descriptorIndex := 246, attributes := #[] }])
  fields := #[{ name := "E", type := .double, accessFlags := 25, slot := 0, constantValue := 0 }, { name := "PI", type := .double, accessFlags := 25, slot := 1, constantValue := 0 }, { name := "TAU", type := .double, accessFlags := 25, slot := 2, constantValue := 0 }, { name := "DEGREES_TO_RADIANS", type := .double, accessFlags := 26, slot := 3, constantValue := 0 }, { name := "RADIANS_TO_DEGREES", type := .double, accessFlags := 26, slot := 4, constantValue := 0 }, { name := "negativeZeroFloatBits", type := .long, accessFlags := 26, slot := 5, constantValue := 0 }, { name := "negativeZeroDoubleBits", type := .long, accessFlags := 26, slot := 6, constantValue := 0 }, { name := "twoToTheDoubleScaleUp", type := .double, accessFlags := 8, slot := 7, constantValue := 0 }, { name := "twoToTheDoubleScaleDown", type := .double, accessFlags := 8, slot := 8, constantValue := 0 }, { name := "$assertionsDisabled", type := .boolean, accessFlags := 4120, slot := 9, constantValue := 0 }]
  methods := #[k3m0, k3m1]
  instanceTypes := #[]
  staticTypes := #[.double, .double, .double, .double, .double, .long, .long, .double, .double, .boolean]
  resolved := Array.replicate 460 none
  statics := none }

def pool4 : Array CpInfo := pool [(2, .class_ 4), (1, u "java/lang/Object"), (0, u "<init>"), (0, u "()V"), (1, .class_ 10), (1, u "java/lang/System"), (0, u "allowSecurityManager"), (0, u "I"), (16, u "cons"), (0, u "Ljava/io/Console;"), (77, .class_ 110), (1, u "java/lang/System$CallersHolder"), (43, u "initialErrStream"), (0, u "Ljava/io/PrintStream;"), (19, u "security"), (0, u "Ljava/lang/SecurityManager;"), (31, .class_ 209), (0, u "java/lang/System$1"), (7, u "props"), (0, u "Ljava/util/Properties;"), (2, u "lineSeparator"), (0, u "Ljava/lang/String;"), (96, .class_ 321), (1, u "java/lang/System$LoggerFinder"), (5, .class_ 328), (0, u "java/lang/System$Logger"), (67, u "err"), (2, u "out"), (91, u "notSupportedJnuEncoding"), (15, u "in"), (17, u "initialIn"), (0, u "Ljava/io/InputStream;"), (35, u "bootLayer"), (0, u "Ljava/lang/ModuleLayer;"), (99, .class_ 664), (0, u "java/lang/System$2"), (9, u "NEVER"), (2, u "MAYBE"), (49, u "arraycopy"), (0, u "(Ljava/lang/Object;ILjava/lang/Object;II)V"), (72, .class_ 802), (0, u "java/lang/System$Logger$Level")] 31

def k4m0 : Method := { name := "<init>", desc := "()V", sig := { parameters := [], returnType := none }, accessFlags := 2, code := none }
def k4m1 : Method := { name := "arraycopy", desc := "(Ljava/lang/Object;ILjava/lang/Object;II)V", sig := { parameters := [(.object "java/lang/Object"), .int, (.object "java/lang/Object"), .int, .int], returnType := none }, accessFlags := 265, code := none }
/-- java/lang/System -/
def k4 : Class := { plain "java/lang/System" (some 0) with
  accessFlags := 49
  interfaces := #[]
  cf := some (fileOf pool4 8 #[.nestMembers #[319, 327, 801, 108, 663, 208]] #[{ accessFlags := 2, nameIndex := 5, descriptorIndex := 6, attributes := #[] }, { accessFlags := 265, nameIndex := 727, descriptorIndex := 728, attributes := #[] }] 49 2 #[] #[{ accessFlags := 25, nameIndex := 507, descriptorIndex := 526, attributes := #[] }, { accessFlags := 25, nameIndex := 399, descriptorIndex := 155, attributes := #[] }, { accessFlags := 25, nameIndex := 396, descriptorIndex := 155, attributes := #[] }, { accessFlags := 10, nameIndex := 525, descriptorIndex := 526, attributes := #[] }, { accessFlags := 26, nameIndex := 674, descriptorIndex := 12, attributes := #[] }, { accessFlags := 26, nameIndex := 677, descriptorIndex := 12, attributes := #[] }, { accessFlags := 10, nameIndex := 11, descriptorIndex := 12, attributes := #[] }, { accessFlags := 74, nameIndex := 175, descriptorIndex := 176, attributes := #[] }, { accessFlags := 10, nameIndex := 491, descriptorIndex := 222, attributes := #[] }, { accessFlags := 74, nameIndex := 29, descriptorIndex := 30, attributes := #[] }, { accessFlags := 74, nameIndex := 154, descriptorIndex := 155, attributes := #[] }, { accessFlags := 10, nameIndex := 217, descriptorIndex := 218, attributes := #[] }, { accessFlags := 10, nameIndex := 221, descriptorIndex := 222, attributes := #[] }, { accessFlags := 8, nameIndex := 562, descriptorIndex := 563, attributes := #[] }])
  fields := #[{ name := "in", type := (.object "java/io/InputStream"), accessFlags := 25, slot := 0, constantValue := 0 }, { name := "out", type := (.object "java/io/PrintStream"), accessFlags := 25, slot := 1, constantValue := 0 }, { name := "err", type := (.object "java/io/PrintStream"), accessFlags := 25, slot := 2, constantValue := 0 }, { name := "initialIn", type := (.object "java/io/InputStream"), accessFlags := 10, slot := 3, constantValue := 0 }, { name := "NEVER", type := .int, accessFlags := 26, slot := 4, constantValue := 0 }, { name := "MAYBE", type := .int, accessFlags := 26, slot := 5, constantValue := 0 }, { name := "allowSecurityManager", type := .int, accessFlags := 10, slot := 6, constantValue := 0 }, { name := "security", type := (.object "java/lang/SecurityManager"), accessFlags := 74, slot := 7, constantValue := 0 }, { name := "notSupportedJnuEncoding", type := (.object "java/lang/String"), accessFlags := 10, slot := 8, constantValue := 0 }, { name := "cons", type := (.object "java/io/Console"), accessFlags := 74, slot := 9, constantValue := 0 }, { name := "initialErrStream", type := (.object "java/io/PrintStream"), accessFlags := 74, slot := 10, constantValue := 0 }, { name := "props", type := (.object "java/util/Properties"), accessFlags := 10, slot := 11, constantValue := 0 }, { name := "lineSeparator", type := (.object "java/lang/String"), accessFlags := 10, slot := 12, constantValue := 0 }, { name := "bootLayer", type := (.object "java/lang/ModuleLayer"), accessFlags := 8, slot := 13, constantValue := 0 }]
  methods := #[k4m0, k4m1]
  instanceTypes := #[]
  staticTypes := #[(.object "java/io/InputStream"), (.object "java/io/PrintStream"), (.object "java/io/PrintStream"), (.object "java/io/InputStream"), .int, .int, .int, (.object "java/lang/SecurityManager"), (.object "java/lang/String"), (.object "java/io/Console"), (.object "java/io/PrintStream"), (.object "java/util/Properties"), (.object "java/lang/String"), (.object "java/lang/ModuleLayer")]
  resolved := Array.replicate 834 none
  statics := none }

def pool5 : Array CpInfo := pool [(1, u "java/lang/Cloneable"), (0, .class_ 1), (0, u "java/lang/Object"), (0, .class_ 3)] 3

/-- java/lang/Cloneable -/
def k5 : Class := { plain "java/lang/Cloneable" (some 0) with
  accessFlags := 1537
  interfaces := #[]
  cf := some (fileOf pool5 2 #[] #[] 1537 4 #[] #[])
  fields := #[]
  methods := #[]
  instanceTypes := #[]
  staticTypes := #[]
  resolved := Array.replicate 8 none
  statics := none }

def pool6 : Array CpInfo := pool [(1, u "java/io/Serializable"), (0, .class_ 1), (0, u "java/lang/Object"), (0, .class_ 3)] 3

/-- java/io/Serializable -/
def k6 : Class := { plain "java/io/Serializable" (some 0) with
  accessFlags := 1537
  interfaces := #[]
  cf := some (fileOf pool6 2 #[] #[] 1537 4 #[] #[])
  fields := #[]
  methods := #[]
  instanceTypes := #[]
  staticTypes := #[]
  resolved := Array.replicate 8 none
  statics := none }

/-- the primitive byte -/
def k7 : Class := { plain "byte" none with kind := .primitive 'B', accessFlags := 0x411 }
/-- [B -/
def k8 : Class := { plain "[B" (some 0) with kind := .array 7 .byte, interfaces := #[5, 6], accessFlags := 1041 }

/-- the primitive int -/
def k9 : Class := { plain "int" none with kind := .primitive 'I', accessFlags := 0x411 }
/-- [I -/
def k10 : Class := { plain "[I" (some 0) with kind := .array 9 .int, interfaces := #[5, 6], accessFlags := 1041 }

/-- the primitive long -/
def k11 : Class := { plain "long" none with kind := .primitive 'J', accessFlags := 0x411 }
/-- [J -/
def k12 : Class := { plain "[J" (some 0) with kind := .array 11 .long, interfaces := #[5, 6], accessFlags := 1041 }

def heap : Heap := #[]
def classes : Array Class := #[k0, k1, k2, k3, k4, k5, k6, k7, k8, k9, k10, k11, k12]
def interned : List (Array UInt16 × Addr) := []
def slotsUsed : Nat := 0
def theMethod : MethodId := ⟨1, 1⟩
def args0 : Array Value := #[.int 5, .long 3, .long 3, .long 1]
def aboutOver (below : List Frame) : State where
  vm := { classes := classes, interned := interned.toArray }
  heap := heap
  slotsUsed := slotsUsed
  threads := #[{ frames := .invoking theMethod args0 :: below }]
def below0 : List Frame := [.native { method := ⟨0, 0⟩, args := #[] }]
def about1 : State := aboutOver below0
def p0 : Program := .bare "" "" ""
def e0 : Env := launch0.env 0 0 0
theorem w_frames : about1.frames = Frame.invoking theMethod args0 :: below0 := rfl
set_option maxRecDepth 65536 in
theorem w_args : argsFit about1.vm theMethod args0 = true := by decide +kernel
set_option maxRecDepth 65536 in
theorem w_heap : heapFits about1 = true := by decide +kernel
set_option maxRecDepth 65536 in
theorem w_runnable : about1.curStatus? = some .runnable := by decide +kernel
set_option maxRecDepth 65536 in
theorem w_alone : about1.alone = true := by decide +kernel
set_option maxRecDepth 65536 in
theorem w_named : about1.methodNamed? x = some theMethod := by decide +kernel
set_option maxRecDepth 65536 in
theorem w_hears : about1.hears theMethod below0 = true := by decide +kernel
set_option maxRecDepth 65536 in
theorem w_ripe : about1.ripe theMethod args0 below0 = true := by decide +kernel
theorem w_running : about1.status = .running := rfl
set_option maxRecDepth 65536 in
theorem w_room : about1.hasRoom e0.platform room_1 = true :=
  launch0.hasRoom_least _ room_1 (by decide +kernel) (by decide +kernel) (by decide +kernel) (by decide +kernel) (by decide +kernel) (by decide +kernel)
theorem allAtoms_all (ts : List Jvm.Cond) (a : Array Jvm.Value) (st : Jvm.State) : (allAtoms ts).before a st = ts.all (fun c => c.before a st) := by
  induction ts with
  | nil => rfl
  | cons c t ih =>
    show (Jvm.Cond.and c (allAtoms t)).before a st = _
    rw [Jvm.Cond.before_and, ih, List.all_cons]
def words1 : List Jvm.Cond := Jvm.Cond.code x code maxLocals ret :: tables_1
/-- a 'code' word, met by the world's own term for the bytes: nothing is compared byte by byte -/
theorem code_word {y : MethodName} {bytes : ByteArray} {mx : Nat} {rt : Option FieldType} {a : Array Value} {s : State} {m : MethodId} {meth : Method} {c : Code} (h1 : s.methodNamed? y = some m) (h2 : s.vm.method? m = some meth) (h3 : meth.code = some c) (h4 : c.code = bytes)
    (h5 : (c.maxLocals == mx && c.exceptionTable.isEmpty && decide (c.maxStack ≤ mostOperands) && decide (meth.sig.returnType = rt) && !meth.locks && decide (parseMethodDescriptor y.desc = some meth.sig)) = true) : (Jvm.Cond.code y bytes mx rt).before a s = true := by
  simp only [Bool.and_eq_true, beq_iff_eq, Bool.not_eq_true', decide_eq_true_eq] at h5
  obtain ⟨⟨⟨⟨⟨g1, g2⟩, g3⟩, g4⟩, g5⟩, g6⟩ := h5
  simp [Cond.before, Cond.holds, Cond.value, h1, h2, h3, h4, g1, g2, g3, g4, g5, g6]
def isCode : Jvm.Cond → Bool
  | .code _ _ _ _ => true
  | _ => false
theorem all_split {L : List Jvm.Cond} {P : Jvm.Cond → Bool} (h1 : L.all (fun c => isCode c || P c) = true) (h2 : ∀ c ∈ L.filter isCode, P c = true) : L.all P = true := by
  refine List.all_eq_true.mpr fun c hc => ?_
  have h := List.all_eq_true.mp h1 c hc
  rcases Bool.eq_false_or_eq_true (isCode c) with hi | hi
  · exact h2 c (List.mem_filter.mpr ⟨hc, hi⟩)
  · simpa [hi] using h
set_option maxRecDepth 65536 in
theorem w_c0 : (Jvm.Cond.code x code maxLocals ret).before args0 about1 = true := code_word (m := ⟨1, 1⟩) (meth := k1m1) (c := k1c1) (by decide +kernel) rfl rfl rfl (by decide +kernel)
set_option maxRecDepth 65536 in
theorem w_c1 : (Jvm.Cond.code ({ cls := "com/example/chainwright/chainwright/KeySort", name := "<init>", desc := "(I)V" } : Jvm.MethodName) prog_11_method_1_code (2 : Nat) (Option.none : Option Jvm.ClassFile.FieldType)).before args0 about1 = true := code_word (m := ⟨2, 0⟩) (meth := k2m0) (c := k2c0) (by decide +kernel) rfl rfl rfl (by decide +kernel)
set_option maxRecDepth 65536 in
theorem w_c2 : (Jvm.Cond.code ({ cls := "java/lang/Object", name := "<init>", desc := "()V" } : Jvm.MethodName) object_method_1_code (1 : Nat) (Option.none : Option Jvm.ClassFile.FieldType)).before args0 about1 = true := code_word (m := ⟨0, 0⟩) (meth := k0m0) (c := k0c0) (by decide +kernel) rfl rfl rfl (by decide +kernel)
set_option maxRecDepth 65536 in
theorem w_c3 : (Jvm.Cond.code ({ cls := "com/example/chainwright/chainwright/KeySort", name := "put", desc := "(IIJ)V" } : Jvm.MethodName) prog_11_method_2_code (5 : Nat) (Option.none : Option Jvm.ClassFile.FieldType)).before args0 about1 = true := code_word (m := ⟨2, 1⟩) (meth := k2m1) (c := k2c1) (by decide +kernel) rfl rfl rfl (by decide +kernel)
set_option maxRecDepth 65536 in
theorem w_c4 : (Jvm.Cond.code ({ cls := "com/example/chainwright/chainwright/KeySort", name := "number", desc := "(I)I" } : Jvm.MethodName) prog_11_method_4_code (2 : Nat) (Option.some Jvm.ClassFile.FieldType.int)).before args0 about1 = true := code_word (m := ⟨2, 3⟩) (meth := k2m3) (c := k2c3) (by decide +kernel) rfl rfl rfl (by decide +kernel)
set_option maxRecDepth 65536 in
theorem w_c5 : (Jvm.Cond.code ({ cls := "com/example/chainwright/chainwright/KeySort", name := "sort", desc := "(I)V" } : Jvm.MethodName) prog_11_method_3_code (12 : Nat) (Option.none : Option Jvm.ClassFile.FieldType)).before args0 about1 = true := code_word (m := ⟨2, 2⟩) (meth := k2m2) (c := k2c2) (by decide +kernel) rfl rfl rfl (by decide +kernel)
set_option maxRecDepth 65536 in
theorem w_c6 : (Jvm.Cond.code ({ cls := "java/lang/Math", name := "min", desc := "(II)I" } : Jvm.MethodName) jdk_29_method_69_code (2 : Nat) (Option.some Jvm.ClassFile.FieldType.int)).before args0 about1 = true := code_word (m := ⟨3, 1⟩) (meth := k3m1) (c := k3c1) (by decide +kernel) rfl rfl rfl (by decide +kernel)
set_option maxRecDepth 65536 in
theorem w_c7 : (Jvm.Cond.code ({ cls := "com/example/chainwright/chainwright/KeySort", name := "before", desc := "(II)Z" } : Jvm.MethodName) prog_11_method_6_code (3 : Nat) (Option.some Jvm.ClassFile.FieldType.boolean)).before args0 about1 = true := code_word (m := ⟨2, 4⟩) (meth := k2m4) (c := k2c4) (by decide +kernel) rfl rfl rfl (by decide +kernel)
def codes1 : List Jvm.Cond := [Jvm.Cond.code x code maxLocals ret, Jvm.Cond.code ({ cls := "com/example/chainwright/chainwright/KeySort", name := "<init>", desc := "(I)V" } : Jvm.MethodName) prog_11_method_1_code (2 : Nat) (Option.none : Option Jvm.ClassFile.FieldType), Jvm.Cond.code ({ cls := "java/lang/Object", name := "<init>", desc := "()V" } : Jvm.MethodName) object_method_1_code (1 : Nat) (Option.none : Option Jvm.ClassFile.FieldType), Jvm.Cond.code ({ cls := "com/example/chainwright/chainwright/KeySort", name := "put", desc := "(IIJ)V" } : Jvm.MethodName) prog_11_method_2_code (5 : Nat) (Option.none : Option Jvm.ClassFile.FieldType), Jvm.Cond.code ({ cls := "com/example/chainwright/chainwright/KeySort", name := "number", desc := "(I)I" } : Jvm.MethodName) prog_11_method_4_code (2 : Nat) (Option.some Jvm.ClassFile.FieldType.int), Jvm.Cond.code ({ cls := "com/example/chainwright/chainwright/KeySort", name := "sort", desc := "(I)V" } : Jvm.MethodName) prog_11_method_3_code (12 : Nat) (Option.none : Option Jvm.ClassFile.FieldType), Jvm.Cond.code ({ cls := "java/lang/Math", name := "min", desc := "(II)I" } : Jvm.MethodName) jdk_29_method_69_code (2 : Nat) (Option.some Jvm.ClassFile.FieldType.int), Jvm.Cond.code ({ cls := "com/example/chainwright/chainwright/KeySort", name := "before", desc := "(II)Z" } : Jvm.MethodName) prog_11_method_6_code (3 : Nat) (Option.some Jvm.ClassFile.FieldType.boolean)]
set_option maxRecDepth 65536 in
theorem codes_eq : words1.filter isCode = codes1 := rfl
theorem w_codes : ∀ c ∈ words1.filter isCode, c.before args0 about1 = true := by
  rw [codes_eq]
  intro c hc
  simp only [codes1, List.mem_cons, List.not_mem_nil, or_false] at hc
  rcases hc with rfl | rfl | rfl | rfl | rfl | rfl | rfl | rfl
  · exact w_c0
  · exact w_c1
  · exact w_c2
  · exact w_c3
  · exact w_c4
  · exact w_c5
  · exact w_c6
  · exact w_c7
set_option maxRecDepth 65536 in
theorem w_t1 : (words1.take 24).all (fun c => isCode c || c.before args0 about1) = true := by decide +kernel
set_option maxRecDepth 65536 in
theorem w_t2 : (words1.drop 24).all (fun c => isCode c || c.before args0 about1) = true := by decide +kernel
theorem w_tables : (allAtoms (Jvm.Cond.code x code maxLocals ret :: tables_1)).before args0 about1 = true := by
  rw [allAtoms_all]
  show words1.all (fun c => c.before args0 about1) = true
  refine all_split ?_ w_codes
  rw [← List.take_append_drop 24 words1, List.all_append, w_t1, w_t2]
  rfl
set_option maxRecDepth 65536 in
theorem w_case : (Jvm.Cond.and given_1 narrow_1).before args0 about1 = true := by decide +kernel
theorem w_applies : (headSpec (Jvm.Cond.code x code maxLocals ret :: tables_1) room_1).applies x e0.platform about1 = true :=
  (Spec.applies_iff w_frames).mpr ⟨w_running, w_runnable, w_alone, w_named, w_hears, w_ripe, w_room, w_tables⟩
theorem atStart : AtStart classFile x code maxLocals ret World_1 tables_1 room_1 Calls_1 rest_1 Pre_1 launch0 p0 e0 about1 theMethod args0 below0 :=
  ⟨lists_1, trivial, launch0.admits_env _ _ _, launch0.least_env, fairChoices_fair.cas, fairChoices_fair.clock, w_frames, w_args, w_heap, w_applies, trivial, trivial, w_case⟩
end start1
theorem witness_1 : WitnessClaimed_1 := ⟨start1.p0, start1.e0, start1.about1, start1.theMethod, start1.args0, start1.below0, start1.atStart⟩
end Jvm.Pilot.@@N@@
