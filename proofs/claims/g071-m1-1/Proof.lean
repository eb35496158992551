import JvmDerived
import JvmDerived.Pilot.@@N@@Statement
import JvmDerived.Pilot.@@N@@Code
set_option linter.unusedVariables false
set_option linter.unusedSimpArgs false
namespace Jvm.RoadKit
open Sem ClassFile Op Lib Jvm.Stand Jvm.Free Jvm.LawKit
section Own
variable {p : Program} {l : Launch} {e : Env} {R : Room} {s : State} {m : MethodId} {args : Array Value} {below : List Frame} {meth : Method} {c : Code} {T : State} {locs : List Loc} {cells slots : Nat} {Z : State} {h h' : Heap} {a b : Addr}
/-- from the state U the method runs to its end, and what it leaves is as G says -/
def own_Go (p : Program) (e : Env) (below : List Frame) (G : Outcome → State → Prop) (U : State) : Prop := ∃ s₂ o, Steps p.tables e below U s₂ ∧ s₂.status = .running ∧ Ended s₂ below o ∧ G o s₂
def own_G (s : State) (Q : Option Value → Heap → List Loc → Prop) (C N : Nat) : Outcome → State → Prop := fun o U' => ∃ v L, o = .returned v ∧ Q v U'.heap L ∧ FrameEnd s o U' L C N
theorem own_st {G : Outcome → State → Prop} {U V : State} (hs : ∀ t, Steps p.tables e below V t → Steps p.tables e below U t) (k : own_Go p e below G V) : own_Go p e below G U := by
  obtain ⟨s₂, o, h1, h2⟩ := k
  exact ⟨s₂, o, hs _ h1, h2⟩
theorem own_retI (X : Stand p l e R s m args below meth c T locs cells slots) (hx : p.tables.exec = Jvm.exec) (hlocks : meth.locks = false) {pc : Nat} {Ls : Array Slot} {z : Int32} {rest : List Value} (hret : meth.sig.returnType = some .int) (hd : decode c.code pc = .ok (.ireturn, 1)) {Q : Option Value → Heap → List Loc → Prop} {C N : Nat}
    (hQ : Q (some (.int z)) T.heap locs) (hC : cells ≤ C) (hN : slots ≤ N) : own_Go p e below (own_G s Q C N) (T.setTop (mkF m pc Ls (.int z :: rest))) := by
  obtain ⟨fs, hr, hrun, hended, hW, hsame⟩ := X.leave (v := some (.int z)) (fun h => by rw [hret] at h; cases h)
  refine ⟨_, _, ?_, hrun, hended, _, _, rfl, hQ, ⟨_, rfl⟩, hW, hsame.mono hC hN⟩
  have hm' : T.vm.method? m = some meth := X.method'
  have hn : narrow .int (.int z) = .int z := rfl
  show Steps p.tables e below (T.setTop { method := m, pc := pc, locals := Ls, stack := _ :: rest, locked := none }) _
  jvm_step X.here [X.here.top, hx, hd, hm', hret, hn]
  first | (intro acts; rw [hr _ acts rfl rfl rfl]) | rw [hr _ _ rfl rfl rfl]
  exact Steps.refl _
theorem own_retN (X : Stand p l e R s m args below meth c T locs cells slots) (hx : p.tables.exec = Jvm.exec) (hlocks : meth.locks = false) {pc : Nat} {Ls : Array Slot} {z z' : Int32} {t : FieldType} {rest : List Value} (hret : meth.sig.returnType = some t) (ht : t = .boolean ∨ t = .byte ∨ t = .char ∨ t = .short) (hz : nar t z = z') (hd : decode c.code pc = .ok (.ireturn, 1)) {Q : Option Value → Heap → List Loc → Prop} {C N : Nat}
    (hQ : Q (some (.int z')) T.heap locs) (hC : cells ≤ C) (hN : slots ≤ N) : own_Go p e below (own_G s Q C N) (T.setTop (mkF m pc Ls (.int z :: rest))) := by
  subst hz
  obtain ⟨fs, hr, hrun, hended, hW, hsame⟩ := X.leave (v := some (.int (nar t z))) (fun h => by rw [hret] at h; cases h)
  exact ⟨_, _, retN X hx hret ht hd hr, hrun, hended, _, _, rfl, hQ, ⟨_, rfl⟩, hW, hsame.mono hC hN⟩
theorem own_retJ (X : Stand p l e R s m args below meth c T locs cells slots) (hx : p.tables.exec = Jvm.exec) (hlocks : meth.locks = false) {pc : Nat} {Ls : Array Slot} {z : Int64} (hret : meth.sig.returnType = some .long) (hd : decode c.code pc = .ok (.lreturn, 1)) {Q : Option Value → Heap → List Loc → Prop} {C N : Nat}
    (hQ : Q (some (.long z)) T.heap locs) (hC : cells ≤ C) (hN : slots ≤ N) : own_Go p e below (own_G s Q C N) (T.setTop (mkF m pc Ls [.long z])) := by
  obtain ⟨fs, hr, hrun, hended, hW, hsame⟩ := X.leave (v := some (.long z)) (fun h => by rw [hret] at h; cases h)
  exact ⟨_, _, X.lreturnOut hx hret hd hr, hrun, hended, _, _, rfl, hQ, ⟨_, rfl⟩, hW, hsame.mono hC hN⟩
theorem own_ret0 (X : Stand p l e R s m args below meth c T locs cells slots) (hx : p.tables.exec = Jvm.exec) (hlocks : meth.locks = false) {pc : Nat} {Ls : Array Slot} (hret : meth.sig.returnType = none) (hd : decode c.code pc = .ok (.return_, 1)) {Q : Option Value → Heap → List Loc → Prop} {C N : Nat}
    (hQ : Q none T.heap locs) (hC : cells ≤ C) (hN : slots ≤ N) : own_Go p e below (own_G s Q C N) (T.setTop (mkF m pc Ls [])) := by
  obtain ⟨fs, hr, hrun, hended, hW, hsame⟩ := X.leave (v := none) (fun _ => rfl)
  exact ⟨_, _, X.returnOut hx hret hd hr, hrun, hended, _, _, rfl, hQ, ⟨_, rfl⟩, hW, hsame.mono hC hN⟩
theorem own_z0 {i j : Nat} (q : i = 0) : i ≤ j := q ▸ Nat.zero_le j
/-! arrays of ints (or bytes), of longs: their length and their elements by a plain function -/
def own_Ai (Z : State) (h : Heap) (a : Addr) (ty : FieldType) (n : Nat) (f : Nat → Int32) : Prop := ∃ c : Cell, Arr Z h a c ty ∧ c.slots.size = n ∧ ∀ i, i < n → c.slots[i]? = some (.int (f i))
def own_Aj (Z : State) (h : Heap) (a : Addr) (ty : FieldType) (n : Nat) (f : Nat → Int64) : Prop := ∃ c : Cell, Arr Z h a c ty ∧ c.slots.size = n ∧ ∀ i, i < n → c.slots[i]? = some (.long (f i))
def own_up (f : Nat → Int32) (k : Nat) (x : Int32) : Nat → Int32 := fun i => if i = k then x else f i
def own_upJ (f : Nat → Int64) (k : Nat) (x : Int64) : Nat → Int64 := fun i => if i = k then x else f i
theorem own_up_at (f : Nat → Int32) (k : Nat) (x : Int32) (i : Nat) : own_up f k x i = if i = k then x else f i := rfl
theorem own_upJ_at (f : Nat → Int64) (k : Nat) (x : Int64) (i : Nat) : own_upJ f k x i = if i = k then x else f i := rfl
variable {ty : FieldType} {n : Nat} {f : Nat → Int32} {fj : Nat → Int64} {ws : List Addr} {sl : Nat} {v : Value}
theorem own_Ai.lt (F : own_Ai Z h a ty n f) : a < h.size := by obtain ⟨c, A, -⟩ := F; exact A.lt
theorem own_Aj.lt (F : own_Aj Z h a ty n fj) : a < h.size := by obtain ⟨c, A, -⟩ := F; exact A.lt
theorem own_Ai.ext (F : own_Ai Z h a ty n f) (E : Ext h h') : own_Ai Z h' a ty n f := by obtain ⟨c, A, r⟩ := F; exact ⟨c, A.ext E, r⟩
theorem own_Aj.ext (F : own_Aj Z h a ty n fj) (E : Ext h h') : own_Aj Z h' a ty n fj := by obtain ⟨c, A, r⟩ := F; exact ⟨c, A.ext E, r⟩
theorem own_Ai.other (F : own_Ai Z h b ty n f) (W : Wr h h' a sl v) (q : b ≠ a) : own_Ai Z h' b ty n f := by obtain ⟨c, A, r⟩ := F; exact ⟨c, A.other W q, r⟩
theorem own_Aj.other (F : own_Aj Z h b ty n fj) (W : Wr h h' a sl v) (q : b ≠ a) : own_Aj Z h' b ty n fj := by obtain ⟨c, A, r⟩ := F; exact ⟨c, A.other W q, r⟩
theorem own_Ai.keep (F : own_Ai Z h a ty n f) (K : Keep h h' ws) (q : a ∉ ws) : own_Ai Z h' a ty n f := by obtain ⟨c, A, r⟩ := F; exact ⟨c, ⟨K.2.1 a c A.1 q, A.2⟩, r⟩
theorem own_Aj.keep (F : own_Aj Z h a ty n fj) (K : Keep h h' ws) (q : a ∉ ws) : own_Aj Z h' a ty n fj := by obtain ⟨c, A, r⟩ := F; exact ⟨c, ⟨K.2.1 a c A.1 q, A.2⟩, r⟩
theorem own_Ai.neq {a0 : Array Value} {k : Nat} {C : String} (F : own_Ai Z h b ty n f) (E : Exa Z h a C) (wi : (Cond.instantiable C k).before a0 Z = true) : a ≠ b := by obtain ⟨c, A, -⟩ := F; exact ne_arr E wi A
theorem own_Aj.neq {a0 : Array Value} {k : Nat} {C : String} (F : own_Aj Z h b ty n fj) (E : Exa Z h a C) (wi : (Cond.instantiable C k).before a0 Z = true) : a ≠ b := by obtain ⟨c, A, -⟩ := F; exact ne_arr E wi A
theorem own_nat {j : Int32} {k : Nat} (hj : j.toInt = k) : j.toNatClampNeg = k := by simp only [Int32.toNatClampNeg, hj]; rfl
theorem own_in {j : Int32} {k n : Nat} (hj : j.toInt = k) (hk : k < n) : ¬ (j < 0 ∨ n ≤ j.toNatClampNeg) := by
  rw [own_nat hj, Int32.lt_iff_toInt_lt, hj, show (0 : Int32).toInt = 0 from rfl]; omega
theorem own_len {z : Int32} (hz : z.toInt = n) : n.toInt32 = z := by
  have := Int32.toInt_lt z
  exact Int32.toInt_inj.mp (by rw [Int32.toInt_ofNat_small (by omega), hz])
theorem own_iaload (X : Stand p l e R s m args below meth c T locs cells slots) (hx : p.tables.exec = Jvm.exec) (hZ : Z.Warmed39 s.vm) (eT : T.heap = h) (A : own_Ai Z h a .int n f) {j : Int32} {k : Nat} (hj : j.toInt = k) (hk : k < n) {g : JFrame} (hg : g.method = m) {rest : List Value} (hs : g.stack = .int j :: .ref a :: rest) (hd : decode c.code g.pc = .ok (.iaload, 1)) {target : State}
    (hr : Steps p.tables e below (T.setTop { g with pc := g.pc + 1, stack := .int (f k) :: rest }) target) : Steps p.tables e below (T.setTop g) target := by
  obtain ⟨cl, A, S, H⟩ := A
  exact X.iaload hx (j := j) (v := .int (f k)) (by rw [eT]; exact A.1) (State.isArrayOf_alike hZ.alike A.2.1) A.2.2 (by rw [S]; exact own_in hj hk) (by rw [own_nat hj]; exact H k hk) hg hs hd _ hr
theorem own_baload (X : Stand p l e R s m args below meth c T locs cells slots) (hx : p.tables.exec = Jvm.exec) (hZ : Z.Warmed39 s.vm) (eT : T.heap = h) (A : own_Ai Z h a .byte n f) {j : Int32} {k : Nat} (hj : j.toInt = k) (hk : k < n) {g : JFrame} (hg : g.method = m) {rest : List Value} (hs : g.stack = .int j :: .ref a :: rest) (hd : decode c.code g.pc = .ok (.baload, 1)) {target : State}
    (hr : Steps p.tables e below (T.setTop { g with pc := g.pc + 1, stack := .int (f k) :: rest }) target) : Steps p.tables e below (T.setTop g) target := by
  obtain ⟨cl, A, S, H⟩ := A
  exact X.baloadBytes hx (j := j) (v := .int (f k)) (by rw [eT]; exact A.1) (State.isArrayOf_alike hZ.alike A.2.1) A.2.2 (by rw [S]; exact own_in hj hk) (by rw [own_nat hj]; exact H k hk) hg hs hd _ hr
theorem own_laload (X : Stand p l e R s m args below meth c T locs cells slots) (hx : p.tables.exec = Jvm.exec) (hZ : Z.Warmed39 s.vm) (eT : T.heap = h) (A : own_Aj Z h a .long n fj) {j : Int32} {k : Nat} (hj : j.toInt = k) (hk : k < n) {g : JFrame} (hg : g.method = m) {rest : List Value} (hs : g.stack = .int j :: .ref a :: rest) (hd : decode c.code g.pc = .ok (.laload, 1)) {target : State}
    (hr : Steps p.tables e below (T.setTop { g with pc := g.pc + 1, stack := .long (fj k) :: rest }) target) : Steps p.tables e below (T.setTop g) target := by
  obtain ⟨cl, A, S, H⟩ := A
  exact X.laload hx (j := j) (v := .long (fj k)) (by rw [eT]; exact A.1) (State.isArrayOf_alike hZ.alike A.2.1) A.2.2 (by rw [S]; exact own_in hj hk) (by rw [own_nat hj]; exact H k hk) hg hs hd _ hr
theorem own_alen (X : Stand p l e R s m args below meth c T locs cells slots) (hx : p.tables.exec = Jvm.exec) (hZ : Z.Warmed39 s.vm) (eT : T.heap = h) (A : own_Ai Z h a ty n f) {z : Int32} (hz : z.toInt = n) {g : JFrame} (hg : g.method = m) {rest : List Value} (hs : g.stack = .ref a :: rest) (hd : decode c.code g.pc = .ok (.arraylength, 1)) {target : State}
    (hr : Steps p.tables e below (T.setTop { g with pc := g.pc + 1, stack := .int z :: rest }) target) : Steps p.tables e below (T.setTop g) target := by
  obtain ⟨cl, A, S, H⟩ := A
  refine X.arraylength hx (by rw [eT]; exact A.1) (State.isArrayOf_alike hZ.alike A.2.1) hg hs hd _ ?_
  rw [S, own_len hz]; exact hr
theorem own_Ai.set (F : own_Ai Z h a ty n f) {j : Nat} {x : Int32} (W : Wr h h' a j (.int x)) : own_Ai Z h' a ty n (own_up f j x) := by
  obtain ⟨cl, A, S, H⟩ := F
  refine ⟨_, A.same W, by rw [sz_set]; exact S, fun i hi => ?_⟩
  rw [own_up_at]
  by_cases q : i = j
  · subst q
    rw [if_pos rfl]
    simp [Cell.setSlot, S, hi]
  · rw [if_neg q, show (cl.setSlot j (.int x)).slots[i]? = cl.slots[i]? from Array.getElem?_setIfInBounds_ne (Ne.symm q)]
    exact H i hi
theorem own_Aj.set (F : own_Aj Z h a ty n fj) {j : Nat} {x : Int64} (W : Wr h h' a j (.long x)) : own_Aj Z h' a ty n (own_upJ fj j x) := by
  obtain ⟨cl, A, S, H⟩ := F
  refine ⟨_, A.same W, by rw [sz_set]; exact S, fun i hi => ?_⟩
  rw [own_upJ_at]
  by_cases q : i = j
  · subst q
    rw [if_pos rfl]
    simp [Cell.setSlot, S, hi]
  · rw [if_neg q, show (cl.setSlot j (.long x)).slots[i]? = cl.slots[i]? from Array.getElem?_setIfInBounds_ne (Ne.symm q)]
    exact H i hi
theorem own_iastore (X : Stand p l e R s m args below meth c T locs cells slots) (hx : p.tables.exec = Jvm.exec) (hZ : Z.Warmed39 s.vm) (eT : T.heap = h) (A : own_Ai Z h a .int n f) {j x : Int32} {k : Nat} (hj : j.toInt = k) (hk : k < n) {g : JFrame} (hg : g.method = m) {rest : List Value} (hs : g.stack = .int x :: .int j :: .ref a :: rest) (hd : decode c.code g.pc = .ok (.iastore, 1)) :
    ∃ T' h', Stand p l e R s m args below meth c T' (locs ++ [⟨a, k⟩]) cells slots ∧ T'.heap = h' ∧ Wr h h' a k (.int x) ∧ own_Ai Z h' a .int n (own_up f k x) ∧ ∀ target, Steps p.tables e below (T'.setTop { g with pc := g.pc + 1, stack := rest }) target → Steps p.tables e below (T.setTop g) target := by
  obtain ⟨cl, B, S, H⟩ := id A
  obtain ⟨T', h', X', e', W, st⟩ := stI X hx hZ eT B (j := j) (x := x) (by rw [S]; exact own_in hj hk) hg hs hd
  rw [own_nat hj] at X' W
  exact ⟨T', h', X', e', W, A.set W, st⟩
theorem own_bastore (X : Stand p l e R s m args below meth c T locs cells slots) (hx : p.tables.exec = Jvm.exec) (hZ : Z.Warmed39 s.vm) (eT : T.heap = h) (A : own_Ai Z h a .byte n f) {j x : Int32} {k : Nat} (hj : j.toInt = k) (hk : k < n) {g : JFrame} (hg : g.method = m) {rest : List Value} (hs : g.stack = .int x :: .int j :: .ref a :: rest) (hd : decode c.code g.pc = .ok (.bastore, 1)) :
    ∃ T' h', Stand p l e R s m args below meth c T' (locs ++ [⟨a, k⟩]) cells slots ∧ T'.heap = h' ∧ Wr h h' a k (.int x.toInt8.toInt32) ∧ own_Ai Z h' a .byte n (own_up f k x.toInt8.toInt32) ∧ ∀ target, Steps p.tables e below (T'.setTop { g with pc := g.pc + 1, stack := rest }) target → Steps p.tables e below (T.setTop g) target := by
  obtain ⟨cl, B, S, H⟩ := id A
  obtain ⟨T', h', X', e', W, st⟩ := stB X hx hZ eT B (j := j) (x := x) (by rw [S]; exact own_in hj hk) hg hs hd
  rw [own_nat hj] at X' W
  exact ⟨T', h', X', e', W, A.set W, st⟩
theorem own_lastore (X : Stand p l e R s m args below meth c T locs cells slots) (hx : p.tables.exec = Jvm.exec) (hZ : Z.Warmed39 s.vm) (eT : T.heap = h) (A : own_Aj Z h a .long n fj) {j : Int32} {x : Int64} {k : Nat} (hj : j.toInt = k) (hk : k < n) {g : JFrame} (hg : g.method = m) {rest : List Value} (hs : g.stack = .long x :: .int j :: .ref a :: rest) (hd : decode c.code g.pc = .ok (.lastore, 1)) :
    ∃ T' h', Stand p l e R s m args below meth c T' (locs ++ [⟨a, k⟩]) cells slots ∧ T'.heap = h' ∧ Wr h h' a k (.long x) ∧ own_Aj Z h' a .long n (own_upJ fj k x) ∧ ∀ target, Steps p.tables e below (T'.setTop { g with pc := g.pc + 1, stack := rest }) target → Steps p.tables e below (T.setTop g) target := by
  obtain ⟨cl, B, S, H⟩ := id A
  obtain ⟨T', h', X', e', W, st⟩ := stJ X hx hZ eT B (j := j) (x := x) (by rw [S]; exact own_in hj hk) hg hs hd
  rw [own_nat hj] at X' W
  exact ⟨T', h', X', e', W, A.set W, st⟩
theorem own_newarr (X : Stand p l e R s m args below meth c T locs cells slots) (hx : p.tables.exec = Jvm.exec) (hZ : Z.Warmed39 s.vm) {a0 : Array Value} {aty : ArrayType} (w : (Cond.arrayClass (newarray.typeOf aty)).before a0 Z = true) (eT : T.heap = h) {g : JFrame} (hg : g.method = m) (hd : decode c.code g.pc = .ok (.newarray aty, 2)) {z : Int32} {rest : List Value} (hs : g.stack = .int z :: rest) {k : Nat}
    (hz : z.toInt = k) {cap : Nat} (hcap : k ≤ cap) (hb : cap * 8 ≤ 536870912) (hc : cells + 1 ≤ R.cells) (hl : slots + cap ≤ R.slots) :
    ∃ T' h' cl, Stand p l e R s m args below meth c T' locs (cells + 1) (slots + cap) ∧ T'.heap = h' ∧ Ext h h' ∧ (Arr Z h' h.size cl (newarray.typeOf aty) ∧ cl.slots = Array.replicate k (defaultValue (newarray.typeOf aty))) ∧
      ∀ target, Steps p.tables e below (T'.setTop { g with pc := g.pc + 2, stack := .ref h.size :: rest }) target → Steps p.tables e below (T.setTop g) target := by
  have hn : ¬ z < 0 := by rw [Int32.lt_iff_toInt_lt, hz, show (0 : Int32).toInt = 0 from rfl]; omega
  obtain ⟨T', h', cA, X', e', E, A, st⟩ := newP X hx hZ w eT hg hd hs hn (by rw [own_nat hz]; exact hcap) hb hc hl
  exact ⟨T', h', _, X', e', E, ⟨A, by simp [newA, own_nat hz]⟩, st⟩
theorem own_Ai.new {cl : Cell} {k : Nat} (A : Arr Z h a cl ty ∧ cl.slots = Array.replicate k (.int 0)) : own_Ai Z h a ty k (fun _ => 0) :=
  ⟨cl, A.1, by rw [A.2]; simp, fun i hi => by rw [A.2]; simp [hi]⟩
theorem own_Aj.new {cl : Cell} {k : Nat} (A : Arr Z h a cl ty ∧ cl.slots = Array.replicate k (.long 0)) : own_Aj Z h a ty k (fun _ => 0) :=
  ⟨cl, A.1, by rw [A.2]; simp, fun i hi => by rw [A.2]; simp [hi]⟩
theorem own_l_lt (x y : Int64) {b : Bool} (h : if_icmp.holds .lt (lcmpW x y) 0 = b) : ifCond.holds .lt (lcmpW x y) = b := (if0 _ _).trans h
end Own
end Jvm.RoadKit
namespace Jvm.Pilot.@@N@@
open Jvm Jvm.ClassFile Sem Op Lib Jvm.Free Jvm.Stand Jvm.LawKit Jvm.RoadKit Bundle Jvm.Pilot.@@N@@.Jvm.D
def own_pick (v : Int32) : Int32 := if ((v.toUInt32 >>> ((8 : Int32) &&& 31).toUInt32).toInt32) &&& 3 = 0 then 43 else if ((v.toUInt32 >>> ((8 : Int32) &&& 31).toUInt32).toInt32) &&& 3 = 1 then 45 else v.toInt8.toInt32
def own_drawn (w z v0 v1 v2 : Int32) : Int32 := if w = 0 ∧ 0 < z then v0 else if w = 1 ∧ 1 < z then v1 else if w = 2 ∧ 2 < z then v2 else 256
def own_skip (ff : Nat → Int32) (w z : Int32) : Int32 := if w < z then (if ff w.toInt.toNat = 43 then w + 1 else if ff w.toInt.toNat = 45 then w + 1 else w) else w
theorem own_b8 (z : Int32) (h1 : -128 ≤ z.toInt) (h2 : z.toInt < 128) : z.toInt8.toInt32 = z := by
  have q := c_i2b z
  exact Int32.toInt_inj.mp (by omega)
theorem own_pick8 (v : Int32) : (own_pick v).toInt8.toInt32 = own_pick v := by
  unfold own_pick
  split
  · decide
  · split
    · decide
    · have q := c_i2b v
      exact own_b8 _ q.2.1 q.2.2
theorem own_mask4 (z : Int32) : z &&& 3 = 0 ∨ z &&& 3 = 1 ∨ z &&& 3 = 2 ∨ z &&& 3 = 3 := by
  have q := c_and z 3 (by decide)
  have e3 : (3 : Int32).toInt = 3 := by decide
  rw [e3] at q
  have h : (z &&& 3).toInt = 0 ∨ (z &&& 3).toInt = 1 ∨ (z &&& 3).toInt = 2 ∨ (z &&& 3).toInt = 3 := by omega
  rcases h with h | h | h | h
  · exact Or.inl (Int32.toInt_inj.mp h)
  · exact Or.inr (Or.inl (Int32.toInt_inj.mp h))
  · exact Or.inr (Or.inr (Or.inl (Int32.toInt_inj.mp h)))
  · exact Or.inr (Or.inr (Or.inr (Int32.toInt_inj.mp h)))
theorem own_fin (F : Nat → Int32) (w z v0 v1 v2 : Int32) (h0 : 0 ≤ w.toInt) (hz : z.toInt ≤ 3) (f0 : 0 < z.toInt → F 0 = v0) (f1 : 1 < z.toInt → F 1 = v1) (f2 : 2 < z.toInt → F 2 = v2) :
    own_skip F w z = if own_drawn w z v0 v1 v2 = 43 then w + 1 else if own_drawn w z v0 v1 v2 = 45 then w + 1 else w := by
  have e0 : (0 : Int32).toInt = 0 := by decide
  have e1 : (1 : Int32).toInt = 1 := by decide
  have e2 : (2 : Int32).toInt = 2 := by decide
  have i0 : (w = 0 ↔ w.toInt = 0) := ⟨fun h => by rw [h]; rfl, fun h => Int32.toInt_inj.mp h⟩
  have i1 : (w = 1 ↔ w.toInt = 1) := ⟨fun h => by rw [h]; rfl, fun h => Int32.toInt_inj.mp h⟩
  have i2 : (w = 2 ↔ w.toInt = 2) := ⟨fun h => by rw [h]; rfl, fun h => Int32.toInt_inj.mp h⟩
  have j0 : ((0 : Int32) < z ↔ 0 < z.toInt) := by rw [Int32.lt_iff_toInt_lt, e0]
  have j1 : ((1 : Int32) < z ↔ 1 < z.toInt) := by rw [Int32.lt_iff_toInt_lt, e1]
  have j2 : ((2 : Int32) < z ↔ 2 < z.toInt) := by rw [Int32.lt_iff_toInt_lt, e2]
  have n0 : ¬ (w.toInt = 0 ∧ 0 < z.toInt) → ¬ (w = 0 ∧ 0 < z) := fun h q => h ⟨i0.mp q.1, j0.mp q.2⟩
  have n1 : ¬ (w.toInt = 1 ∧ 1 < z.toInt) → ¬ (w = 1 ∧ 1 < z) := fun h q => h ⟨i1.mp q.1, j1.mp q.2⟩
  have n2 : ¬ (w.toInt = 2 ∧ 2 < z.toInt) → ¬ (w = 2 ∧ 2 < z) := fun h q => h ⟨i2.mp q.1, j2.mp q.2⟩
  by_cases c : w.toInt < z.toInt
  · have h : w.toInt = 0 ∨ w.toInt = 1 ∨ w.toInt = 2 := by omega
    rcases h with h | h | h
    · have d : own_drawn w z v0 v1 v2 = v0 := if_pos ⟨i0.mpr h, j0.mpr (by omega)⟩
      rw [d]; unfold own_skip
      rw [if_pos (Int32.lt_iff_toInt_lt.mpr c), h, show Int.toNat 0 = 0 from rfl, f0 (by omega)]
    · have d : own_drawn w z v0 v1 v2 = v1 := by unfold own_drawn; rw [if_neg (n0 (by omega)), if_pos (show w = 1 ∧ 1 < z from ⟨i1.mpr h, j1.mpr (by omega)⟩)]
      rw [d]; unfold own_skip
      rw [if_pos (Int32.lt_iff_toInt_lt.mpr c), h, show Int.toNat 1 = 1 from rfl, f1 (by omega)]
    · have d : own_drawn w z v0 v1 v2 = v2 := by unfold own_drawn; rw [if_neg (n0 (by omega)), if_neg (n1 (by omega)), if_pos (show w = 2 ∧ 2 < z from ⟨i2.mpr h, j2.mpr (by omega)⟩)]
      rw [d]; unfold own_skip
      rw [if_pos (Int32.lt_iff_toInt_lt.mpr c), h, show Int.toNat 2 = 2 from rfl, f2 (by omega)]
  · have d : own_drawn w z v0 v1 v2 = 256 := by unfold own_drawn; rw [if_neg (n0 (by omega)), if_neg (n1 (by omega)), if_neg (n2 (by omega))]
    rw [d]; unfold own_skip
    rw [if_neg (fun q => c (Int32.lt_iff_toInt_lt.mp q)), if_neg (by decide), if_neg (by decide)]
theorem d1_0 : decode method_2_code 0 = .ok (.iload_n 0, 1) := by decide +kernel
theorem d1_1 : decode method_2_code 1 = .ok (.bipush 8, 2) := by decide +kernel
theorem d1_3 : decode method_2_code 3 = .ok (.iushr, 1) := by decide +kernel
theorem d1_4 : decode method_2_code 4 = .ok (.iconst 3, 1) := by decide +kernel
theorem d1_5 : decode method_2_code 5 = .ok (.iand, 1) := by decide +kernel
theorem d1_6 : decode method_2_code 6 = .ok (.istore_n 1, 1) := by decide +kernel
theorem d1_7 : decode method_2_code 7 = .ok (.iload_n 1, 1) := by decide +kernel
theorem d1_8 : decode method_2_code 8 = .ok (.ifCond .ne 6, 3) := by decide +kernel
theorem d1_11 : decode method_2_code 11 = .ok (.bipush 43, 2) := by decide +kernel
theorem d1_13 : decode method_2_code 13 = .ok (.ireturn, 1) := by decide +kernel
theorem d1_14 : decode method_2_code 14 = .ok (.iload_n 1, 1) := by decide +kernel
theorem d1_15 : decode method_2_code 15 = .ok (.iconst 1, 1) := by decide +kernel
theorem d1_16 : decode method_2_code 16 = .ok (.if_icmp .ne 6, 3) := by decide +kernel
theorem d1_19 : decode method_2_code 19 = .ok (.bipush 45, 2) := by decide +kernel
theorem d1_21 : decode method_2_code 21 = .ok (.ireturn, 1) := by decide +kernel
theorem d1_22 : decode method_2_code 22 = .ok (.iload_n 0, 1) := by decide +kernel
theorem d1_23 : decode method_2_code 23 = .ok (.i2b, 1) := by decide +kernel
theorem d1_24 : decode method_2_code 24 = .ok (.ireturn, 1) := by decide +kernel
theorem pn_1 : plainName "com/example/tidewatch/tidewatch/io/DecimalSkipSignPinLaw" = true := by first | (simp [plainName, overriddenIn]; done) | decide +kernel
theorem ef_1 (m : MethodId) (x0 : Int32) : entryFrame m #[(.int x0)] 2 = mkF m 0 #[.val (.int x0), .unset] [] := by first | (simp [entryFrame, mkF, argsToLocals, Value.category]; done) | rfl
def Q1 (Z : State) (xp : Int32) (h0 : Heap) (n0 : Nat) (v : Option Value) (h : Heap) (L : List Loc) : Prop := v = some (.int (own_pick xp)) ∧ Fr n0 L ∧ h = h0
set_option maxRecDepth 65536 in
set_option maxHeartbeats 40000000 in
theorem rm1 (l : Launch) (Z : State) (a0 : Array Value) (hw : ∀ d ∈ tables_1, d.before a0 Z = true) (ws : List Jvm.Cond) (xp : Int32) (h0 : Heap) (n0 : Nat) (Z0 : n0 ≤ h0.size) :
    MetFree l (⟨"com/example/tidewatch/tidewatch/io/DecimalSkipSignPinLaw", "pick", "(I)I"⟩ : MethodName) (head1 (Jvm.Cond.code (⟨"com/example/tidewatch/tidewatch/io/DecimalSkipSignPinLaw", "pick", "(I)I"⟩ : MethodName) method_2_code 2 (some .int) :: ws) ({ frames := 0, cells := 0, slots := 0, locals := 0 } : Room)) (fun a U => a = #[(.int xp)] ∧ Z.Warmed39 U.vm ∧ U.heap = h0) (fun _ _ _ _ _ => True) (fun _ U o U' => ∃ v L, o = .returned v ∧ Q1 Z xp h0 n0 v U'.heap L ∧ FrameEnd U o U' L ({ frames := 0, cells := 0, slots := 0, locals := 0 } : Room).cells ({ frames := 0, cells := 0, slots := 0, locals := 0 } : Room).slots) := by
  refine MetFree.of_bodySF (plainFor_of_name pn_1) hisR ?_
  intro p e s m args below meth c s₁ Bd hml0 hP hK
  obtain ⟨rfl, hZ, hh⟩ := hP
  have hx := Bd.exec
  have hby := Bd.bytes
  have hlk : meth.locks = false := BodyLoose.notSynchronized Bd
  have hml : c.maxLocals = 2 := hml0
  have hown : s.vm.findClass "com/example/tidewatch/tidewatch/io/DecimalSkipSignPinLaw" = some m.cls := findClass_of_methodNamed Bd.named
  have hnm := (name_of_methodNamed Bd.named Bd.method).1
  have X0 : Stand p l e ({ frames := 0, cells := 0, slots := 0, locals := 0 } : Room) s m #[(.int xp)] below meth c s₁ [] 0 0 := Stand.of_body Bd
  have e0 : s₁.heap = h0 := by rw [← hh, Bd.state]; rfl
  have N0 := Fr.nil n0
  show own_Go p e below (own_G s (Q1 Z xp h0 n0) ({ frames := 0, cells := 0, slots := 0, locals := 0 } : Room).cells ({ frames := 0, cells := 0, slots := 0, locals := 0 } : Room).slots) (s₁.setTop (entryFrame m #[(.int xp)] 2))
  refine own_st (fun tgt k => castTop (ef_1 m xp) k) ?_
  show own_Go p e below _ (s₁.setTop (mkF m 0 #[.val (.int xp), .unset] []))
  refine own_st (V := s₁.setTop (mkF m 8 #[.val (.int xp), .val (.int (((xp.toUInt32 >>> ((8 : Int32) &&& 31).toUInt32).toInt32) &&& (3 : Int32)))] [(.int (((xp.toUInt32 >>> ((8 : Int32) &&& 31).toUInt32).toInt32) &&& (3 : Int32)))])) (fun tgt k => ?_) ?_
  · show Steps p.tables e below (s₁.setTop (mkF m 0 #[.val (.int xp), .unset] [])) tgt
    refine XS.iloadN X0.here hx rfl (hb hby d1_0) rfl ?_
    show Steps p.tables e below (s₁.setTop (mkF m 1 #[.val (.int xp), .unset] [(.int xp)])) tgt
    refine XS.bipush X0.here hx rfl (hb hby d1_1) ?_
    show Steps p.tables e below (s₁.setTop (mkF m 3 #[.val (.int xp), .unset] [(.int (8 : Int32)), (.int xp)])) tgt
    refine XS.iushr X0.here hx rfl (hb hby d1_3) rfl ?_
    show Steps p.tables e below (s₁.setTop (mkF m 4 #[.val (.int xp), .unset] [(.int ((xp.toUInt32 >>> ((8 : Int32) &&& 31).toUInt32).toInt32))])) tgt
    refine XS.iconst X0.here hx rfl (hb hby d1_4) ?_
    show Steps p.tables e below (s₁.setTop (mkF m 5 #[.val (.int xp), .unset] [(.int (3 : Int32)), (.int ((xp.toUInt32 >>> ((8 : Int32) &&& 31).toUInt32).toInt32))])) tgt
    refine XS.iand X0.here hx rfl (hb hby d1_5) rfl ?_
    show Steps p.tables e below (s₁.setTop (mkF m 6 #[.val (.int xp), .unset] [(.int (((xp.toUInt32 >>> ((8 : Int32) &&& 31).toUInt32).toInt32) &&& (3 : Int32)))])) tgt
    refine XS.istoreN X0.here hx rfl (hb hby d1_6) rfl (l' := #[.val (.int xp), .val (.int (((xp.toUInt32 >>> ((8 : Int32) &&& 31).toUInt32).toInt32) &&& (3 : Int32)))]) rfl ?_
    show Steps p.tables e below (s₁.setTop (mkF m 7 #[.val (.int xp), .val (.int (((xp.toUInt32 >>> ((8 : Int32) &&& 31).toUInt32).toInt32) &&& (3 : Int32)))] [])) tgt
    refine XS.iloadN X0.here hx rfl (hb hby d1_7) rfl ?_
    exact k
  by_cases hc8 : (((xp.toUInt32 >>> ((8 : Int32) &&& 31).toUInt32).toInt32) &&& (3 : Int32)) = (0 : Int32)
  · skip
    refine own_st (V := s₁.setTop (mkF m 13 #[.val (.int xp), .val (.int (((xp.toUInt32 >>> ((8 : Int32) &&& 31).toUInt32).toInt32) &&& (3 : Int32)))] [(.int (43 : Int32))])) (fun tgt k => ?_) ?_
    · show Steps p.tables e below (s₁.setTop (mkF m 8 #[.val (.int xp), .val (.int (((xp.toUInt32 >>> ((8 : Int32) &&& 31).toUInt32).toInt32) &&& (3 : Int32)))] [(.int (((xp.toUInt32 >>> ((8 : Int32) &&& 31).toUInt32).toInt32) &&& (3 : Int32)))])) tgt
      refine XS.ifNo X0.here hx rfl (hb hby d1_8) rfl ((if0 _ _).trans (teq hc8).2) ?_
      show Steps p.tables e below (s₁.setTop (mkF m 11 #[.val (.int xp), .val (.int (((xp.toUInt32 >>> ((8 : Int32) &&& 31).toUInt32).toInt32) &&& (3 : Int32)))] [])) tgt
      refine XS.bipush X0.here hx rfl (hb hby d1_11) ?_
      exact k
    refine own_retI X0 hx hlk Bd.returns (hb hby d1_13) ?_ (by decide) (by decide)
    show Q1 Z xp h0 n0 (some (.int (43 : Int32))) s₁.heap _
    rw [e0]
    refine ⟨?_, N0, rfl⟩
    exact congrArg (fun q => some (Value.int q)) (by unfold own_pick; rw [if_pos hc8])
  · skip
    refine own_st (V := s₁.setTop (mkF m 16 #[.val (.int xp), .val (.int (((xp.toUInt32 >>> ((8 : Int32) &&& 31).toUInt32).toInt32) &&& (3 : Int32)))] [(.int (1 : Int32)), (.int (((xp.toUInt32 >>> ((8 : Int32) &&& 31).toUInt32).toInt32) &&& (3 : Int32)))])) (fun tgt k => ?_) ?_
    · show Steps p.tables e below (s₁.setTop (mkF m 8 #[.val (.int xp), .val (.int (((xp.toUInt32 >>> ((8 : Int32) &&& 31).toUInt32).toInt32) &&& (3 : Int32)))] [(.int (((xp.toUInt32 >>> ((8 : Int32) &&& 31).toUInt32).toInt32) &&& (3 : Int32)))])) tgt
      refine XS.ifYes X0.here hx rfl (pc0 := 8) (pc' := 14) rfl (hb hby d1_8) rfl ((if0 _ _).trans (feq hc8).2) (by decide) (by decide) ?_
      show Steps p.tables e below (s₁.setTop (mkF m 14 #[.val (.int xp), .val (.int (((xp.toUInt32 >>> ((8 : Int32) &&& 31).toUInt32).toInt32) &&& (3 : Int32)))] [])) tgt
      refine XS.iloadN X0.here hx rfl (hb hby d1_14) rfl ?_
      show Steps p.tables e below (s₁.setTop (mkF m 15 #[.val (.int xp), .val (.int (((xp.toUInt32 >>> ((8 : Int32) &&& 31).toUInt32).toInt32) &&& (3 : Int32)))] [(.int (((xp.toUInt32 >>> ((8 : Int32) &&& 31).toUInt32).toInt32) &&& (3 : Int32)))])) tgt
      refine XS.iconst X0.here hx rfl (hb hby d1_15) ?_
      exact k
    by_cases hc16 : (((xp.toUInt32 >>> ((8 : Int32) &&& 31).toUInt32).toInt32) &&& (3 : Int32)) = (1 : Int32)
    · skip
      refine own_st (V := s₁.setTop (mkF m 21 #[.val (.int xp), .val (.int (((xp.toUInt32 >>> ((8 : Int32) &&& 31).toUInt32).toInt32) &&& (3 : Int32)))] [(.int (45 : Int32))])) (fun tgt k => ?_) ?_
      · show Steps p.tables e below (s₁.setTop (mkF m 16 #[.val (.int xp), .val (.int (((xp.toUInt32 >>> ((8 : Int32) &&& 31).toUInt32).toInt32) &&& (3 : Int32)))] [(.int (1 : Int32)), (.int (((xp.toUInt32 >>> ((8 : Int32) &&& 31).toUInt32).toInt32) &&& (3 : Int32)))])) tgt
        refine XS.icmpNo X0.here hx rfl (hb hby d1_16) rfl (teq hc16).2 ?_
        show Steps p.tables e below (s₁.setTop (mkF m 19 #[.val (.int xp), .val (.int (((xp.toUInt32 >>> ((8 : Int32) &&& 31).toUInt32).toInt32) &&& (3 : Int32)))] [])) tgt
        refine XS.bipush X0.here hx rfl (hb hby d1_19) ?_
        exact k
      refine own_retI X0 hx hlk Bd.returns (hb hby d1_21) ?_ (by decide) (by decide)
      show Q1 Z xp h0 n0 (some (.int (45 : Int32))) s₁.heap _
      rw [e0]
      refine ⟨?_, N0, rfl⟩
      exact congrArg (fun q => some (Value.int q)) (by unfold own_pick; rw [if_neg hc8, if_pos hc16])
    · skip
      refine own_st (V := s₁.setTop (mkF m 24 #[.val (.int xp), .val (.int (((xp.toUInt32 >>> ((8 : Int32) &&& 31).toUInt32).toInt32) &&& (3 : Int32)))] [(.int (xp.toInt8.toInt32))])) (fun tgt k => ?_) ?_
      · show Steps p.tables e below (s₁.setTop (mkF m 16 #[.val (.int xp), .val (.int (((xp.toUInt32 >>> ((8 : Int32) &&& 31).toUInt32).toInt32) &&& (3 : Int32)))] [(.int (1 : Int32)), (.int (((xp.toUInt32 >>> ((8 : Int32) &&& 31).toUInt32).toInt32) &&& (3 : Int32)))])) tgt
        refine XS.icmpYes X0.here hx rfl (pc0 := 16) (pc' := 22) rfl (hb hby d1_16) rfl (feq hc16).2 (by decide) (by decide) ?_
        show Steps p.tables e below (s₁.setTop (mkF m 22 #[.val (.int xp), .val (.int (((xp.toUInt32 >>> ((8 : Int32) &&& 31).toUInt32).toInt32) &&& (3 : Int32)))] [])) tgt
        refine XS.iloadN X0.here hx rfl (hb hby d1_22) rfl ?_
        show Steps p.tables e below (s₁.setTop (mkF m 23 #[.val (.int xp), .val (.int (((xp.toUInt32 >>> ((8 : Int32) &&& 31).toUInt32).toInt32) &&& (3 : Int32)))] [(.int xp)])) tgt
        refine XS.i2b X0.here hx rfl (hb hby d1_23) rfl ?_
        exact k
      refine own_retI X0 hx hlk Bd.returns (hb hby d1_24) ?_ (by decide) (by decide)
      show Q1 Z xp h0 n0 (some (.int (xp.toInt8.toInt32))) s₁.heap _
      rw [e0]
      refine ⟨?_, N0, rfl⟩
      exact congrArg (fun q => some (Value.int q)) (by unfold own_pick; rw [if_neg hc8, if_neg hc16])
theorem d2_0 : decode method_3_code 0 = .ok (.iload_n 0, 1) := by decide +kernel
theorem d2_1 : decode method_3_code 1 = .ok (.ifCond .ne 9, 3) := by decide +kernel
theorem d2_4 : decode method_3_code 4 = .ok (.iload_n 1, 1) := by decide +kernel
theorem d2_5 : decode method_3_code 5 = .ok (.ifCond .le 5, 3) := by decide +kernel
theorem d2_8 : decode method_3_code 8 = .ok (.iload_n 2, 1) := by decide +kernel
theorem d2_9 : decode method_3_code 9 = .ok (.ireturn, 1) := by decide +kernel
theorem d2_10 : decode method_3_code 10 = .ok (.iload_n 0, 1) := by decide +kernel
theorem d2_11 : decode method_3_code 11 = .ok (.iconst 1, 1) := by decide +kernel
theorem d2_12 : decode method_3_code 12 = .ok (.if_icmp .ne 10, 3) := by decide +kernel
theorem d2_15 : decode method_3_code 15 = .ok (.iload_n 1, 1) := by decide +kernel
theorem d2_16 : decode method_3_code 16 = .ok (.iconst 1, 1) := by decide +kernel
theorem d2_17 : decode method_3_code 17 = .ok (.if_icmp .le 5, 3) := by decide +kernel
theorem d2_20 : decode method_3_code 20 = .ok (.iload_n 3, 1) := by decide +kernel
theorem d2_21 : decode method_3_code 21 = .ok (.ireturn, 1) := by decide +kernel
theorem d2_22 : decode method_3_code 22 = .ok (.iload_n 0, 1) := by decide +kernel
theorem d2_23 : decode method_3_code 23 = .ok (.iconst 2, 1) := by decide +kernel
theorem d2_24 : decode method_3_code 24 = .ok (.if_icmp .ne 11, 3) := by decide +kernel
theorem d2_27 : decode method_3_code 27 = .ok (.iload_n 1, 1) := by decide +kernel
theorem d2_28 : decode method_3_code 28 = .ok (.iconst 2, 1) := by decide +kernel
theorem d2_29 : decode method_3_code 29 = .ok (.if_icmp .le 6, 3) := by decide +kernel
theorem d2_32 : decode method_3_code 32 = .ok (.iload 4, 2) := by decide +kernel
theorem d2_34 : decode method_3_code 34 = .ok (.ireturn, 1) := by decide +kernel
theorem d2_35 : decode method_3_code 35 = .ok (.sipush 256, 3) := by decide +kernel
theorem d2_38 : decode method_3_code 38 = .ok (.ireturn, 1) := by decide +kernel
theorem pn_2 : plainName "com/example/tidewatch/tidewatch/io/DecimalSkipSignPinLaw" = true := by first | (simp [plainName, overriddenIn]; done) | decide +kernel
theorem ef_2 (m : MethodId) (x0 : Int32) (x1 : Int32) (x2 : Int32) (x3 : Int32) (x4 : Int32) : entryFrame m #[(.int x0), (.int x1), (.int x2), (.int x3), (.int x4)] 5 = mkF m 0 #[.val (.int x0), .val (.int x1), .val (.int x2), .val (.int x3), .val (.int x4)] [] := by first | (simp [entryFrame, mkF, argsToLocals, Value.category]; done) | rfl
def Q2 (Z : State) (xw : Int32) (xz : Int32) (v0 : Int32) (v1 : Int32) (v2 : Int32) (h0 : Heap) (n0 : Nat) (v : Option Value) (h : Heap) (L : List Loc) : Prop := v = some (.int (own_drawn xw xz v0 v1 v2)) ∧ Fr n0 L ∧ h = h0
set_option maxRecDepth 65536 in
set_option maxHeartbeats 40000000 in
theorem rm2 (l : Launch) (Z : State) (a0 : Array Value) (hw : ∀ d ∈ tables_1, d.before a0 Z = true) (ws : List Jvm.Cond) (xw : Int32) (xz : Int32) (v0 : Int32) (v1 : Int32) (v2 : Int32) (h0 : Heap) (n0 : Nat) (Z0 : n0 ≤ h0.size) :
    MetFree l (⟨"com/example/tidewatch/tidewatch/io/DecimalSkipSignPinLaw", "drawnAt", "(IIIII)I"⟩ : MethodName) (head1 (Jvm.Cond.code (⟨"com/example/tidewatch/tidewatch/io/DecimalSkipSignPinLaw", "drawnAt", "(IIIII)I"⟩ : MethodName) method_3_code 5 (some .int) :: ws) ({ frames := 0, cells := 0, slots := 0, locals := 0 } : Room)) (fun a U => a = #[(.int xw), (.int xz), (.int v0), (.int v1), (.int v2)] ∧ Z.Warmed39 U.vm ∧ U.heap = h0) (fun _ _ _ _ _ => True) (fun _ U o U' => ∃ v L, o = .returned v ∧ Q2 Z xw xz v0 v1 v2 h0 n0 v U'.heap L ∧ FrameEnd U o U' L ({ frames := 0, cells := 0, slots := 0, locals := 0 } : Room).cells ({ frames := 0, cells := 0, slots := 0, locals := 0 } : Room).slots) := by
  refine MetFree.of_bodySF (plainFor_of_name pn_2) hisR ?_
  intro p e s m args below meth c s₁ Bd hml0 hP hK
  obtain ⟨rfl, hZ, hh⟩ := hP
  have hx := Bd.exec
  have hby := Bd.bytes
  have hlk : meth.locks = false := BodyLoose.notSynchronized Bd
  have hml : c.maxLocals = 5 := hml0
  have hown : s.vm.findClass "com/example/tidewatch/tidewatch/io/DecimalSkipSignPinLaw" = some m.cls := findClass_of_methodNamed Bd.named
  have hnm := (name_of_methodNamed Bd.named Bd.method).1
  have X0 : Stand p l e ({ frames := 0, cells := 0, slots := 0, locals := 0 } : Room) s m #[(.int xw), (.int xz), (.int v0), (.int v1), (.int v2)] below meth c s₁ [] 0 0 := Stand.of_body Bd
  have e0 : s₁.heap = h0 := by rw [← hh, Bd.state]; rfl
  have N0 := Fr.nil n0
  show own_Go p e below (own_G s (Q2 Z xw xz v0 v1 v2 h0 n0) ({ frames := 0, cells := 0, slots := 0, locals := 0 } : Room).cells ({ frames := 0, cells := 0, slots := 0, locals := 0 } : Room).slots) (s₁.setTop (entryFrame m #[(.int xw), (.int xz), (.int v0), (.int v1), (.int v2)] 5))
  refine own_st (fun tgt k => castTop (ef_2 m xw xz v0 v1 v2) k) ?_
  show own_Go p e below _ (s₁.setTop (mkF m 0 #[.val (.int xw), .val (.int xz), .val (.int v0), .val (.int v1), .val (.int v2)] []))
  refine own_st (V := s₁.setTop (mkF m 1 #[.val (.int xw), .val (.int xz), .val (.int v0), .val (.int v1), .val (.int v2)] [(.int xw)])) (fun tgt k => ?_) ?_
  · show Steps p.tables e below (s₁.setTop (mkF m 0 #[.val (.int xw), .val (.int xz), .val (.int v0), .val (.int v1), .val (.int v2)] [])) tgt
    refine XS.iloadN X0.here hx rfl (hb hby d2_0) rfl ?_
    exact k
  by_cases hc1 : xw = (0 : Int32)
  · skip
    refine own_st (V := s₁.setTop (mkF m 5 #[.val (.int xw), .val (.int xz), .val (.int v0), .val (.int v1), .val (.int v2)] [(.int xz)])) (fun tgt k => ?_) ?_
    · show Steps p.tables e below (s₁.setTop (mkF m 1 #[.val (.int xw), .val (.int xz), .val (.int v0), .val (.int v1), .val (.int v2)] [(.int xw)])) tgt
      refine XS.ifNo X0.here hx rfl (hb hby d2_1) rfl ((if0 _ _).trans (teq hc1).2) ?_
      show Steps p.tables e below (s₁.setTop (mkF m 4 #[.val (.int xw), .val (.int xz), .val (.int v0), .val (.int v1), .val (.int v2)] [])) tgt
      refine XS.iloadN X0.here hx rfl (hb hby d2_4) rfl ?_
      exact k
    by_cases hc5 : (0 : Int32) < xz
    · skip
      refine own_st (V := s₁.setTop (mkF m 9 #[.val (.int xw), .val (.int xz), .val (.int v0), .val (.int v1), .val (.int v2)] [(.int v0)])) (fun tgt k => ?_) ?_
      · show Steps p.tables e below (s₁.setTop (mkF m 5 #[.val (.int xw), .val (.int xz), .val (.int v0), .val (.int v1), .val (.int v2)] [(.int xz)])) tgt
        refine XS.ifNo X0.here hx rfl (hb hby d2_5) rfl ((if0 _ _).trans (tlt hc5).2.2.2) ?_
        show Steps p.tables e below (s₁.setTop (mkF m 8 #[.val (.int xw), .val (.int xz), .val (.int v0), .val (.int v1), .val (.int v2)] [])) tgt
        refine XS.iloadN X0.here hx rfl (hb hby d2_8) rfl ?_
        exact k
      refine own_retI X0 hx hlk Bd.returns (hb hby d2_9) ?_ (by decide) (by decide)
      show Q2 Z xw xz v0 v1 v2 h0 n0 (some (.int v0)) s₁.heap _
      rw [e0]
      refine ⟨?_, N0, rfl⟩
      exact congrArg (fun q => some (Value.int q)) (by unfold own_drawn; rw [if_pos (And.intro hc1 hc5)])
    · skip
      refine own_st (V := s₁.setTop (mkF m 12 #[.val (.int xw), .val (.int xz), .val (.int v0), .val (.int v1), .val (.int v2)] [(.int (1 : Int32)), (.int xw)])) (fun tgt k => ?_) ?_
      · show Steps p.tables e below (s₁.setTop (mkF m 5 #[.val (.int xw), .val (.int xz), .val (.int v0), .val (.int v1), .val (.int v2)] [(.int xz)])) tgt
        refine XS.ifYes X0.here hx rfl (pc0 := 5) (pc' := 10) rfl (hb hby d2_5) rfl ((if0 _ _).trans (flt hc5).2.2.2) (by decide) (by decide) ?_
        show Steps p.tables e below (s₁.setTop (mkF m 10 #[.val (.int xw), .val (.int xz), .val (.int v0), .val (.int v1), .val (.int v2)] [])) tgt
        refine XS.iloadN X0.here hx rfl (hb hby d2_10) rfl ?_
        show Steps p.tables e below (s₁.setTop (mkF m 11 #[.val (.int xw), .val (.int xz), .val (.int v0), .val (.int v1), .val (.int v2)] [(.int xw)])) tgt
        refine XS.iconst X0.here hx rfl (hb hby d2_11) ?_
        exact k
      by_cases hc12 : xw = (1 : Int32)
      · skip
        refine own_st (V := s₁.setTop (mkF m 17 #[.val (.int xw), .val (.int xz), .val (.int v0), .val (.int v1), .val (.int v2)] [(.int (1 : Int32)), (.int xz)])) (fun tgt k => ?_) ?_
        · show Steps p.tables e below (s₁.setTop (mkF m 12 #[.val (.int xw), .val (.int xz), .val (.int v0), .val (.int v1), .val (.int v2)] [(.int (1 : Int32)), (.int xw)])) tgt
          refine XS.icmpNo X0.here hx rfl (hb hby d2_12) rfl (teq hc12).2 ?_
          show Steps p.tables e below (s₁.setTop (mkF m 15 #[.val (.int xw), .val (.int xz), .val (.int v0), .val (.int v1), .val (.int v2)] [])) tgt
          refine XS.iloadN X0.here hx rfl (hb hby d2_15) rfl ?_
          show Steps p.tables e below (s₁.setTop (mkF m 16 #[.val (.int xw), .val (.int xz), .val (.int v0), .val (.int v1), .val (.int v2)] [(.int xz)])) tgt
          refine XS.iconst X0.here hx rfl (hb hby d2_16) ?_
          exact k
        by_cases hc17 : (1 : Int32) < xz
        · skip
          refine own_st (V := s₁.setTop (mkF m 21 #[.val (.int xw), .val (.int xz), .val (.int v0), .val (.int v1), .val (.int v2)] [(.int v1)])) (fun tgt k => ?_) ?_
          · show Steps p.tables e below (s₁.setTop (mkF m 17 #[.val (.int xw), .val (.int xz), .val (.int v0), .val (.int v1), .val (.int v2)] [(.int (1 : Int32)), (.int xz)])) tgt
            refine XS.icmpNo X0.here hx rfl (hb hby d2_17) rfl (tlt hc17).2.2.2 ?_
            show Steps p.tables e below (s₁.setTop (mkF m 20 #[.val (.int xw), .val (.int xz), .val (.int v0), .val (.int v1), .val (.int v2)] [])) tgt
            refine XS.iloadN X0.here hx rfl (hb hby d2_20) rfl ?_
            exact k
          refine own_retI X0 hx hlk Bd.returns (hb hby d2_21) ?_ (by decide) (by decide)
          show Q2 Z xw xz v0 v1 v2 h0 n0 (some (.int v1)) s₁.heap _
          rw [e0]
          refine ⟨?_, N0, rfl⟩
          exact congrArg (fun q => some (Value.int q)) (by unfold own_drawn; rw [if_neg (fun q => hc5 q.2), if_pos (And.intro hc12 hc17)])
        · skip
          refine own_st (V := s₁.setTop (mkF m 24 #[.val (.int xw), .val (.int xz), .val (.int v0), .val (.int v1), .val (.int v2)] [(.int (2 : Int32)), (.int xw)])) (fun tgt k => ?_) ?_
          · show Steps p.tables e below (s₁.setTop (mkF m 17 #[.val (.int xw), .val (.int xz), .val (.int v0), .val (.int v1), .val (.int v2)] [(.int (1 : Int32)), (.int xz)])) tgt
            refine XS.icmpYes X0.here hx rfl (pc0 := 17) (pc' := 22) rfl (hb hby d2_17) rfl (flt hc17).2.2.2 (by decide) (by decide) ?_
            show Steps p.tables e below (s₁.setTop (mkF m 22 #[.val (.int xw), .val (.int xz), .val (.int v0), .val (.int v1), .val (.int v2)] [])) tgt
            refine XS.iloadN X0.here hx rfl (hb hby d2_22) rfl ?_
            show Steps p.tables e below (s₁.setTop (mkF m 23 #[.val (.int xw), .val (.int xz), .val (.int v0), .val (.int v1), .val (.int v2)] [(.int xw)])) tgt
            refine XS.iconst X0.here hx rfl (hb hby d2_23) ?_
            exact k
          by_cases hc24 : xw = (2 : Int32)
          · skip
            refine own_st (V := s₁.setTop (mkF m 29 #[.val (.int xw), .val (.int xz), .val (.int v0), .val (.int v1), .val (.int v2)] [(.int (2 : Int32)), (.int xz)])) (fun tgt k => ?_) ?_
            · show Steps p.tables e below (s₁.setTop (mkF m 24 #[.val (.int xw), .val (.int xz), .val (.int v0), .val (.int v1), .val (.int v2)] [(.int (2 : Int32)), (.int xw)])) tgt
              refine XS.icmpNo X0.here hx rfl (hb hby d2_24) rfl (teq hc24).2 ?_
              show Steps p.tables e below (s₁.setTop (mkF m 27 #[.val (.int xw), .val (.int xz), .val (.int v0), .val (.int v1), .val (.int v2)] [])) tgt
              refine XS.iloadN X0.here hx rfl (hb hby d2_27) rfl ?_
              show Steps p.tables e below (s₁.setTop (mkF m 28 #[.val (.int xw), .val (.int xz), .val (.int v0), .val (.int v1), .val (.int v2)] [(.int xz)])) tgt
              refine XS.iconst X0.here hx rfl (hb hby d2_28) ?_
              exact k
            by_cases hc29 : (2 : Int32) < xz
            · skip
              refine own_st (V := s₁.setTop (mkF m 34 #[.val (.int xw), .val (.int xz), .val (.int v0), .val (.int v1), .val (.int v2)] [(.int v2)])) (fun tgt k => ?_) ?_
              · show Steps p.tables e below (s₁.setTop (mkF m 29 #[.val (.int xw), .val (.int xz), .val (.int v0), .val (.int v1), .val (.int v2)] [(.int (2 : Int32)), (.int xz)])) tgt
                refine XS.icmpNo X0.here hx rfl (hb hby d2_29) rfl (tlt hc29).2.2.2 ?_
                show Steps p.tables e below (s₁.setTop (mkF m 32 #[.val (.int xw), .val (.int xz), .val (.int v0), .val (.int v1), .val (.int v2)] [])) tgt
                refine XS.iload X0.here hx rfl (hb hby d2_32) rfl ?_
                exact k
              refine own_retI X0 hx hlk Bd.returns (hb hby d2_34) ?_ (by decide) (by decide)
              show Q2 Z xw xz v0 v1 v2 h0 n0 (some (.int v2)) s₁.heap _
              rw [e0]
              refine ⟨?_, N0, rfl⟩
              exact congrArg (fun q => some (Value.int q)) (by unfold own_drawn; rw [if_neg (fun q => hc5 q.2), if_neg (fun q => hc17 q.2), if_pos (And.intro hc24 hc29)])
            · skip
              refine own_st (V := s₁.setTop (mkF m 38 #[.val (.int xw), .val (.int xz), .val (.int v0), .val (.int v1), .val (.int v2)] [(.int (256 : Int32))])) (fun tgt k => ?_) ?_
              · show Steps p.tables e below (s₁.setTop (mkF m 29 #[.val (.int xw), .val (.int xz), .val (.int v0), .val (.int v1), .val (.int v2)] [(.int (2 : Int32)), (.int xz)])) tgt
                refine XS.icmpYes X0.here hx rfl (pc0 := 29) (pc' := 35) rfl (hb hby d2_29) rfl (flt hc29).2.2.2 (by decide) (by decide) ?_
                show Steps p.tables e below (s₁.setTop (mkF m 35 #[.val (.int xw), .val (.int xz), .val (.int v0), .val (.int v1), .val (.int v2)] [])) tgt
                refine XS.sipush X0.here hx rfl (hb hby d2_35) ?_
                exact k
              refine own_retI X0 hx hlk Bd.returns (hb hby d2_38) ?_ (by decide) (by decide)
              show Q2 Z xw xz v0 v1 v2 h0 n0 (some (.int (256 : Int32))) s₁.heap _
              rw [e0]
              refine ⟨?_, N0, rfl⟩
              exact congrArg (fun q => some (Value.int q)) (by unfold own_drawn; rw [if_neg (fun q => hc5 q.2), if_neg (fun q => hc17 q.2), if_neg (fun q => hc29 q.2)])
          · skip
            refine own_st (V := s₁.setTop (mkF m 38 #[.val (.int xw), .val (.int xz), .val (.int v0), .val (.int v1), .val (.int v2)] [(.int (256 : Int32))])) (fun tgt k => ?_) ?_
            · show Steps p.tables e below (s₁.setTop (mkF m 24 #[.val (.int xw), .val (.int xz), .val (.int v0), .val (.int v1), .val (.int v2)] [(.int (2 : Int32)), (.int xw)])) tgt
              refine XS.icmpYes X0.here hx rfl (pc0 := 24) (pc' := 35) rfl (hb hby d2_24) rfl (feq hc24).2 (by decide) (by decide) ?_
              show Steps p.tables e below (s₁.setTop (mkF m 35 #[.val (.int xw), .val (.int xz), .val (.int v0), .val (.int v1), .val (.int v2)] [])) tgt
              refine XS.sipush X0.here hx rfl (hb hby d2_35) ?_
              exact k
            refine own_retI X0 hx hlk Bd.returns (hb hby d2_38) ?_ (by decide) (by decide)
            show Q2 Z xw xz v0 v1 v2 h0 n0 (some (.int (256 : Int32))) s₁.heap _
            rw [e0]
            refine ⟨?_, N0, rfl⟩
            exact congrArg (fun q => some (Value.int q)) (by unfold own_drawn; rw [if_neg (fun q => hc5 q.2), if_neg (fun q => hc17 q.2), if_neg (fun q => hc24 q.1)])
      · skip
        refine own_st (V := s₁.setTop (mkF m 24 #[.val (.int xw), .val (.int xz), .val (.int v0), .val (.int v1), .val (.int v2)] [(.int (2 : Int32)), (.int xw)])) (fun tgt k => ?_) ?_
        · show Steps p.tables e below (s₁.setTop (mkF m 12 #[.val (.int xw), .val (.int xz), .val (.int v0), .val (.int v1), .val (.int v2)] [(.int (1 : Int32)), (.int xw)])) tgt
          refine XS.icmpYes X0.here hx rfl (pc0 := 12) (pc' := 22) rfl (hb hby d2_12) rfl (feq hc12).2 (by decide) (by decide) ?_
          show Steps p.tables e below (s₁.setTop (mkF m 22 #[.val (.int xw), .val (.int xz), .val (.int v0), .val (.int v1), .val (.int v2)] [])) tgt
          refine XS.iloadN X0.here hx rfl (hb hby d2_22) rfl ?_
          show Steps p.tables e below (s₁.setTop (mkF m 23 #[.val (.int xw), .val (.int xz), .val (.int v0), .val (.int v1), .val (.int v2)] [(.int xw)])) tgt
          refine XS.iconst X0.here hx rfl (hb hby d2_23) ?_
          exact k
        by_cases hc24 : xw = (2 : Int32)
        · skip
          refine own_st (V := s₁.setTop (mkF m 29 #[.val (.int xw), .val (.int xz), .val (.int v0), .val (.int v1), .val (.int v2)] [(.int (2 : Int32)), (.int xz)])) (fun tgt k => ?_) ?_
          · show Steps p.tables e below (s₁.setTop (mkF m 24 #[.val (.int xw), .val (.int xz), .val (.int v0), .val (.int v1), .val (.int v2)] [(.int (2 : Int32)), (.int xw)])) tgt
            refine XS.icmpNo X0.here hx rfl (hb hby d2_24) rfl (teq hc24).2 ?_
            show Steps p.tables e below (s₁.setTop (mkF m 27 #[.val (.int xw), .val (.int xz), .val (.int v0), .val (.int v1), .val (.int v2)] [])) tgt
            refine XS.iloadN X0.here hx rfl (hb hby d2_27) rfl ?_
            show Steps p.tables e below (s₁.setTop (mkF m 28 #[.val (.int xw), .val (.int xz), .val (.int v0), .val (.int v1), .val (.int v2)] [(.int xz)])) tgt
            refine XS.iconst X0.here hx rfl (hb hby d2_28) ?_
            exact k
          by_cases hc29 : (2 : Int32) < xz
          · skip
            refine own_st (V := s₁.setTop (mkF m 34 #[.val (.int xw), .val (.int xz), .val (.int v0), .val (.int v1), .val (.int v2)] [(.int v2)])) (fun tgt k => ?_) ?_
            · show Steps p.tables e below (s₁.setTop (mkF m 29 #[.val (.int xw), .val (.int xz), .val (.int v0), .val (.int v1), .val (.int v2)] [(.int (2 : Int32)), (.int xz)])) tgt
              refine XS.icmpNo X0.here hx rfl (hb hby d2_29) rfl (tlt hc29).2.2.2 ?_
              show Steps p.tables e below (s₁.setTop (mkF m 32 #[.val (.int xw), .val (.int xz), .val (.int v0), .val (.int v1), .val (.int v2)] [])) tgt
              refine XS.iload X0.here hx rfl (hb hby d2_32) rfl ?_
              exact k
            refine own_retI X0 hx hlk Bd.returns (hb hby d2_34) ?_ (by decide) (by decide)
            show Q2 Z xw xz v0 v1 v2 h0 n0 (some (.int v2)) s₁.heap _
            rw [e0]
            refine ⟨?_, N0, rfl⟩
            exact congrArg (fun q => some (Value.int q)) (by unfold own_drawn; rw [if_neg (fun q => hc5 q.2), if_neg (fun q => hc12 q.1), if_pos (And.intro hc24 hc29)])
          · skip
            refine own_st (V := s₁.setTop (mkF m 38 #[.val (.int xw), .val (.int xz), .val (.int v0), .val (.int v1), .val (.int v2)] [(.int (256 : Int32))])) (fun tgt k => ?_) ?_
            · show Steps p.tables e below (s₁.setTop (mkF m 29 #[.val (.int xw), .val (.int xz), .val (.int v0), .val (.int v1), .val (.int v2)] [(.int (2 : Int32)), (.int xz)])) tgt
              refine XS.icmpYes X0.here hx rfl (pc0 := 29) (pc' := 35) rfl (hb hby d2_29) rfl (flt hc29).2.2.2 (by decide) (by decide) ?_
              show Steps p.tables e below (s₁.setTop (mkF m 35 #[.val (.int xw), .val (.int xz), .val (.int v0), .val (.int v1), .val (.int v2)] [])) tgt
              refine XS.sipush X0.here hx rfl (hb hby d2_35) ?_
              exact k
            refine own_retI X0 hx hlk Bd.returns (hb hby d2_38) ?_ (by decide) (by decide)
            show Q2 Z xw xz v0 v1 v2 h0 n0 (some (.int (256 : Int32))) s₁.heap _
            rw [e0]
            refine ⟨?_, N0, rfl⟩
            exact congrArg (fun q => some (Value.int q)) (by unfold own_drawn; rw [if_neg (fun q => hc5 q.2), if_neg (fun q => hc12 q.1), if_neg (fun q => hc29 q.2)])
        · skip
          refine own_st (V := s₁.setTop (mkF m 38 #[.val (.int xw), .val (.int xz), .val (.int v0), .val (.int v1), .val (.int v2)] [(.int (256 : Int32))])) (fun tgt k => ?_) ?_
          · show Steps p.tables e below (s₁.setTop (mkF m 24 #[.val (.int xw), .val (.int xz), .val (.int v0), .val (.int v1), .val (.int v2)] [(.int (2 : Int32)), (.int xw)])) tgt
            refine XS.icmpYes X0.here hx rfl (pc0 := 24) (pc' := 35) rfl (hb hby d2_24) rfl (feq hc24).2 (by decide) (by decide) ?_
            show Steps p.tables e below (s₁.setTop (mkF m 35 #[.val (.int xw), .val (.int xz), .val (.int v0), .val (.int v1), .val (.int v2)] [])) tgt
            refine XS.sipush X0.here hx rfl (hb hby d2_35) ?_
            exact k
          refine own_retI X0 hx hlk Bd.returns (hb hby d2_38) ?_ (by decide) (by decide)
          show Q2 Z xw xz v0 v1 v2 h0 n0 (some (.int (256 : Int32))) s₁.heap _
          rw [e0]
          refine ⟨?_, N0, rfl⟩
          exact congrArg (fun q => some (Value.int q)) (by unfold own_drawn; rw [if_neg (fun q => hc5 q.2), if_neg (fun q => hc12 q.1), if_neg (fun q => hc24 q.1)])
  · skip
    refine own_st (V := s₁.setTop (mkF m 12 #[.val (.int xw), .val (.int xz), .val (.int v0), .val (.int v1), .val (.int v2)] [(.int (1 : Int32)), (.int xw)])) (fun tgt k => ?_) ?_
    · show Steps p.tables e below (s₁.setTop (mkF m 1 #[.val (.int xw), .val (.int xz), .val (.int v0), .val (.int v1), .val (.int v2)] [(.int xw)])) tgt
      refine XS.ifYes X0.here hx rfl (pc0 := 1) (pc' := 10) rfl (hb hby d2_1) rfl ((if0 _ _).trans (feq hc1).2) (by decide) (by decide) ?_
      show Steps p.tables e below (s₁.setTop (mkF m 10 #[.val (.int xw), .val (.int xz), .val (.int v0), .val (.int v1), .val (.int v2)] [])) tgt
      refine XS.iloadN X0.here hx rfl (hb hby d2_10) rfl ?_
      show Steps p.tables e below (s₁.setTop (mkF m 11 #[.val (.int xw), .val (.int xz), .val (.int v0), .val (.int v1), .val (.int v2)] [(.int xw)])) tgt
      refine XS.iconst X0.here hx rfl (hb hby d2_11) ?_
      exact k
    by_cases hc12 : xw = (1 : Int32)
    · skip
      refine own_st (V := s₁.setTop (mkF m 17 #[.val (.int xw), .val (.int xz), .val (.int v0), .val (.int v1), .val (.int v2)] [(.int (1 : Int32)), (.int xz)])) (fun tgt k => ?_) ?_
      · show Steps p.tables e below (s₁.setTop (mkF m 12 #[.val (.int xw), .val (.int xz), .val (.int v0), .val (.int v1), .val (.int v2)] [(.int (1 : Int32)), (.int xw)])) tgt
        refine XS.icmpNo X0.here hx rfl (hb hby d2_12) rfl (teq hc12).2 ?_
        show Steps p.tables e below (s₁.setTop (mkF m 15 #[.val (.int xw), .val (.int xz), .val (.int v0), .val (.int v1), .val (.int v2)] [])) tgt
        refine XS.iloadN X0.here hx rfl (hb hby d2_15) rfl ?_
        show Steps p.tables e below (s₁.setTop (mkF m 16 #[.val (.int xw), .val (.int xz), .val (.int v0), .val (.int v1), .val (.int v2)] [(.int xz)])) tgt
        refine XS.iconst X0.here hx rfl (hb hby d2_16) ?_
        exact k
      by_cases hc17 : (1 : Int32) < xz
      · skip
        refine own_st (V := s₁.setTop (mkF m 21 #[.val (.int xw), .val (.int xz), .val (.int v0), .val (.int v1), .val (.int v2)] [(.int v1)])) (fun tgt k => ?_) ?_
        · show Steps p.tables e below (s₁.setTop (mkF m 17 #[.val (.int xw), .val (.int xz), .val (.int v0), .val (.int v1), .val (.int v2)] [(.int (1 : Int32)), (.int xz)])) tgt
          refine XS.icmpNo X0.here hx rfl (hb hby d2_17) rfl (tlt hc17).2.2.2 ?_
          show Steps p.tables e below (s₁.setTop (mkF m 20 #[.val (.int xw), .val (.int xz), .val (.int v0), .val (.int v1), .val (.int v2)] [])) tgt
          refine XS.iloadN X0.here hx rfl (hb hby d2_20) rfl ?_
          exact k
        refine own_retI X0 hx hlk Bd.returns (hb hby d2_21) ?_ (by decide) (by decide)
        show Q2 Z xw xz v0 v1 v2 h0 n0 (some (.int v1)) s₁.heap _
        rw [e0]
        refine ⟨?_, N0, rfl⟩
        exact congrArg (fun q => some (Value.int q)) (by unfold own_drawn; rw [if_neg (fun q => hc1 q.1), if_pos (And.intro hc12 hc17)])
      · skip
        refine own_st (V := s₁.setTop (mkF m 24 #[.val (.int xw), .val (.int xz), .val (.int v0), .val (.int v1), .val (.int v2)] [(.int (2 : Int32)), (.int xw)])) (fun tgt k => ?_) ?_
        · show Steps p.tables e below (s₁.setTop (mkF m 17 #[.val (.int xw), .val (.int xz), .val (.int v0), .val (.int v1), .val (.int v2)] [(.int (1 : Int32)), (.int xz)])) tgt
          refine XS.icmpYes X0.here hx rfl (pc0 := 17) (pc' := 22) rfl (hb hby d2_17) rfl (flt hc17).2.2.2 (by decide) (by decide) ?_
          show Steps p.tables e below (s₁.setTop (mkF m 22 #[.val (.int xw), .val (.int xz), .val (.int v0), .val (.int v1), .val (.int v2)] [])) tgt
          refine XS.iloadN X0.here hx rfl (hb hby d2_22) rfl ?_
          show Steps p.tables e below (s₁.setTop (mkF m 23 #[.val (.int xw), .val (.int xz), .val (.int v0), .val (.int v1), .val (.int v2)] [(.int xw)])) tgt
          refine XS.iconst X0.here hx rfl (hb hby d2_23) ?_
          exact k
        by_cases hc24 : xw = (2 : Int32)
        · skip
          refine own_st (V := s₁.setTop (mkF m 29 #[.val (.int xw), .val (.int xz), .val (.int v0), .val (.int v1), .val (.int v2)] [(.int (2 : Int32)), (.int xz)])) (fun tgt k => ?_) ?_
          · show Steps p.tables e below (s₁.setTop (mkF m 24 #[.val (.int xw), .val (.int xz), .val (.int v0), .val (.int v1), .val (.int v2)] [(.int (2 : Int32)), (.int xw)])) tgt
            refine XS.icmpNo X0.here hx rfl (hb hby d2_24) rfl (teq hc24).2 ?_
            show Steps p.tables e below (s₁.setTop (mkF m 27 #[.val (.int xw), .val (.int xz), .val (.int v0), .val (.int v1), .val (.int v2)] [])) tgt
            refine XS.iloadN X0.here hx rfl (hb hby d2_27) rfl ?_
            show Steps p.tables e below (s₁.setTop (mkF m 28 #[.val (.int xw), .val (.int xz), .val (.int v0), .val (.int v1), .val (.int v2)] [(.int xz)])) tgt
            refine XS.iconst X0.here hx rfl (hb hby d2_28) ?_
            exact k
          by_cases hc29 : (2 : Int32) < xz
          · skip
            refine own_st (V := s₁.setTop (mkF m 34 #[.val (.int xw), .val (.int xz), .val (.int v0), .val (.int v1), .val (.int v2)] [(.int v2)])) (fun tgt k => ?_) ?_
            · show Steps p.tables e below (s₁.setTop (mkF m 29 #[.val (.int xw), .val (.int xz), .val (.int v0), .val (.int v1), .val (.int v2)] [(.int (2 : Int32)), (.int xz)])) tgt
              refine XS.icmpNo X0.here hx rfl (hb hby d2_29) rfl (tlt hc29).2.2.2 ?_
              show Steps p.tables e below (s₁.setTop (mkF m 32 #[.val (.int xw), .val (.int xz), .val (.int v0), .val (.int v1), .val (.int v2)] [])) tgt
              refine XS.iload X0.here hx rfl (hb hby d2_32) rfl ?_
              exact k
            refine own_retI X0 hx hlk Bd.returns (hb hby d2_34) ?_ (by decide) (by decide)
            show Q2 Z xw xz v0 v1 v2 h0 n0 (some (.int v2)) s₁.heap _
            rw [e0]
            refine ⟨?_, N0, rfl⟩
            exact congrArg (fun q => some (Value.int q)) (by unfold own_drawn; rw [if_neg (fun q => hc1 q.1), if_neg (fun q => hc17 q.2), if_pos (And.intro hc24 hc29)])
          · skip
            refine own_st (V := s₁.setTop (mkF m 38 #[.val (.int xw), .val (.int xz), .val (.int v0), .val (.int v1), .val (.int v2)] [(.int (256 : Int32))])) (fun tgt k => ?_) ?_
            · show Steps p.tables e below (s₁.setTop (mkF m 29 #[.val (.int xw), .val (.int xz), .val (.int v0), .val (.int v1), .val (.int v2)] [(.int (2 : Int32)), (.int xz)])) tgt
              refine XS.icmpYes X0.here hx rfl (pc0 := 29) (pc' := 35) rfl (hb hby d2_29) rfl (flt hc29).2.2.2 (by decide) (by decide) ?_
              show Steps p.tables e below (s₁.setTop (mkF m 35 #[.val (.int xw), .val (.int xz), .val (.int v0), .val (.int v1), .val (.int v2)] [])) tgt
              refine XS.sipush X0.here hx rfl (hb hby d2_35) ?_
              exact k
            refine own_retI X0 hx hlk Bd.returns (hb hby d2_38) ?_ (by decide) (by decide)
            show Q2 Z xw xz v0 v1 v2 h0 n0 (some (.int (256 : Int32))) s₁.heap _
            rw [e0]
            refine ⟨?_, N0, rfl⟩
            exact congrArg (fun q => some (Value.int q)) (by unfold own_drawn; rw [if_neg (fun q => hc1 q.1), if_neg (fun q => hc17 q.2), if_neg (fun q => hc29 q.2)])
        · skip
          refine own_st (V := s₁.setTop (mkF m 38 #[.val (.int xw), .val (.int xz), .val (.int v0), .val (.int v1), .val (.int v2)] [(.int (256 : Int32))])) (fun tgt k => ?_) ?_
          · show Steps p.tables e below (s₁.setTop (mkF m 24 #[.val (.int xw), .val (.int xz), .val (.int v0), .val (.int v1), .val (.int v2)] [(.int (2 : Int32)), (.int xw)])) tgt
            refine XS.icmpYes X0.here hx rfl (pc0 := 24) (pc' := 35) rfl (hb hby d2_24) rfl (feq hc24).2 (by decide) (by decide) ?_
            show Steps p.tables e below (s₁.setTop (mkF m 35 #[.val (.int xw), .val (.int xz), .val (.int v0), .val (.int v1), .val (.int v2)] [])) tgt
            refine XS.sipush X0.here hx rfl (hb hby d2_35) ?_
            exact k
          refine own_retI X0 hx hlk Bd.returns (hb hby d2_38) ?_ (by decide) (by decide)
          show Q2 Z xw xz v0 v1 v2 h0 n0 (some (.int (256 : Int32))) s₁.heap _
          rw [e0]
          refine ⟨?_, N0, rfl⟩
          exact congrArg (fun q => some (Value.int q)) (by unfold own_drawn; rw [if_neg (fun q => hc1 q.1), if_neg (fun q => hc17 q.2), if_neg (fun q => hc24 q.1)])
    · skip
      refine own_st (V := s₁.setTop (mkF m 24 #[.val (.int xw), .val (.int xz), .val (.int v0), .val (.int v1), .val (.int v2)] [(.int (2 : Int32)), (.int xw)])) (fun tgt k => ?_) ?_
      · show Steps p.tables e below (s₁.setTop (mkF m 12 #[.val (.int xw), .val (.int xz), .val (.int v0), .val (.int v1), .val (.int v2)] [(.int (1 : Int32)), (.int xw)])) tgt
        refine XS.icmpYes X0.here hx rfl (pc0 := 12) (pc' := 22) rfl (hb hby d2_12) rfl (feq hc12).2 (by decide) (by decide) ?_
        show Steps p.tables e below (s₁.setTop (mkF m 22 #[.val (.int xw), .val (.int xz), .val (.int v0), .val (.int v1), .val (.int v2)] [])) tgt
        refine XS.iloadN X0.here hx rfl (hb hby d2_22) rfl ?_
        show Steps p.tables e below (s₁.setTop (mkF m 23 #[.val (.int xw), .val (.int xz), .val (.int v0), .val (.int v1), .val (.int v2)] [(.int xw)])) tgt
        refine XS.iconst X0.here hx rfl (hb hby d2_23) ?_
        exact k
      by_cases hc24 : xw = (2 : Int32)
      · skip
        refine own_st (V := s₁.setTop (mkF m 29 #[.val (.int xw), .val (.int xz), .val (.int v0), .val (.int v1), .val (.int v2)] [(.int (2 : Int32)), (.int xz)])) (fun tgt k => ?_) ?_
        · show Steps p.tables e below (s₁.setTop (mkF m 24 #[.val (.int xw), .val (.int xz), .val (.int v0), .val (.int v1), .val (.int v2)] [(.int (2 : Int32)), (.int xw)])) tgt
          refine XS.icmpNo X0.here hx rfl (hb hby d2_24) rfl (teq hc24).2 ?_
          show Steps p.tables e below (s₁.setTop (mkF m 27 #[.val (.int xw), .val (.int xz), .val (.int v0), .val (.int v1), .val (.int v2)] [])) tgt
          refine XS.iloadN X0.here hx rfl (hb hby d2_27) rfl ?_
          show Steps p.tables e below (s₁.setTop (mkF m 28 #[.val (.int xw), .val (.int xz), .val (.int v0), .val (.int v1), .val (.int v2)] [(.int xz)])) tgt
          refine XS.iconst X0.here hx rfl (hb hby d2_28) ?_
          exact k
        by_cases hc29 : (2 : Int32) < xz
        · skip
          refine own_st (V := s₁.setTop (mkF m 34 #[.val (.int xw), .val (.int xz), .val (.int v0), .val (.int v1), .val (.int v2)] [(.int v2)])) (fun tgt k => ?_) ?_
          · show Steps p.tables e below (s₁.setTop (mkF m 29 #[.val (.int xw), .val (.int xz), .val (.int v0), .val (.int v1), .val (.int v2)] [(.int (2 : Int32)), (.int xz)])) tgt
            refine XS.icmpNo X0.here hx rfl (hb hby d2_29) rfl (tlt hc29).2.2.2 ?_
            show Steps p.tables e below (s₁.setTop (mkF m 32 #[.val (.int xw), .val (.int xz), .val (.int v0), .val (.int v1), .val (.int v2)] [])) tgt
            refine XS.iload X0.here hx rfl (hb hby d2_32) rfl ?_
            exact k
          refine own_retI X0 hx hlk Bd.returns (hb hby d2_34) ?_ (by decide) (by decide)
          show Q2 Z xw xz v0 v1 v2 h0 n0 (some (.int v2)) s₁.heap _
          rw [e0]
          refine ⟨?_, N0, rfl⟩
          exact congrArg (fun q => some (Value.int q)) (by unfold own_drawn; rw [if_neg (fun q => hc1 q.1), if_neg (fun q => hc12 q.1), if_pos (And.intro hc24 hc29)])
        · skip
          refine own_st (V := s₁.setTop (mkF m 38 #[.val (.int xw), .val (.int xz), .val (.int v0), .val (.int v1), .val (.int v2)] [(.int (256 : Int32))])) (fun tgt k => ?_) ?_
          · show Steps p.tables e below (s₁.setTop (mkF m 29 #[.val (.int xw), .val (.int xz), .val (.int v0), .val (.int v1), .val (.int v2)] [(.int (2 : Int32)), (.int xz)])) tgt
            refine XS.icmpYes X0.here hx rfl (pc0 := 29) (pc' := 35) rfl (hb hby d2_29) rfl (flt hc29).2.2.2 (by decide) (by decide) ?_
            show Steps p.tables e below (s₁.setTop (mkF m 35 #[.val (.int xw), .val (.int xz), .val (.int v0), .val (.int v1), .val (.int v2)] [])) tgt
            refine XS.sipush X0.here hx rfl (hb hby d2_35) ?_
            exact k
          refine own_retI X0 hx hlk Bd.returns (hb hby d2_38) ?_ (by decide) (by decide)
          show Q2 Z xw xz v0 v1 v2 h0 n0 (some (.int (256 : Int32))) s₁.heap _
          rw [e0]
          refine ⟨?_, N0, rfl⟩
          exact congrArg (fun q => some (Value.int q)) (by unfold own_drawn; rw [if_neg (fun q => hc1 q.1), if_neg (fun q => hc12 q.1), if_neg (fun q => hc29 q.2)])
      · skip
        refine own_st (V := s₁.setTop (mkF m 38 #[.val (.int xw), .val (.int xz), .val (.int v0), .val (.int v1), .val (.int v2)] [(.int (256 : Int32))])) (fun tgt k => ?_) ?_
        · show Steps p.tables e below (s₁.setTop (mkF m 24 #[.val (.int xw), .val (.int xz), .val (.int v0), .val (.int v1), .val (.int v2)] [(.int (2 : Int32)), (.int xw)])) tgt
          refine XS.icmpYes X0.here hx rfl (pc0 := 24) (pc' := 35) rfl (hb hby d2_24) rfl (feq hc24).2 (by decide) (by decide) ?_
          show Steps p.tables e below (s₁.setTop (mkF m 35 #[.val (.int xw), .val (.int xz), .val (.int v0), .val (.int v1), .val (.int v2)] [])) tgt
          refine XS.sipush X0.here hx rfl (hb hby d2_35) ?_
          exact k
        refine own_retI X0 hx hlk Bd.returns (hb hby d2_38) ?_ (by decide) (by decide)
        show Q2 Z xw xz v0 v1 v2 h0 n0 (some (.int (256 : Int32))) s₁.heap _
        rw [e0]
        refine ⟨?_, N0, rfl⟩
        exact congrArg (fun q => some (Value.int q)) (by unfold own_drawn; rw [if_neg (fun q => hc1 q.1), if_neg (fun q => hc12 q.1), if_neg (fun q => hc24 q.1)])
theorem d3_0 : decode prog_30_method_3_code 0 = .ok (.iload_n 1, 1) := by decide +kernel
theorem d3_1 : decode prog_30_method_3_code 1 = .ok (.aload_n 0, 1) := by decide +kernel
theorem d3_2 : decode prog_30_method_3_code 2 = .ok (.arraylength, 1) := by decide +kernel
theorem d3_3 : decode prog_30_method_3_code 3 = .ok (.if_icmp .ge 23, 3) := by decide +kernel
theorem d3_6 : decode prog_30_method_3_code 6 = .ok (.aload_n 0, 1) := by decide +kernel
theorem d3_7 : decode prog_30_method_3_code 7 = .ok (.iload_n 1, 1) := by decide +kernel
theorem d3_8 : decode prog_30_method_3_code 8 = .ok (.baload, 1) := by decide +kernel
theorem d3_9 : decode prog_30_method_3_code 9 = .ok (.bipush 43, 2) := by decide +kernel
theorem d3_11 : decode prog_30_method_3_code 11 = .ok (.if_icmp .eq 11, 3) := by decide +kernel
theorem d3_14 : decode prog_30_method_3_code 14 = .ok (.aload_n 0, 1) := by decide +kernel
theorem d3_15 : decode prog_30_method_3_code 15 = .ok (.iload_n 1, 1) := by decide +kernel
theorem d3_16 : decode prog_30_method_3_code 16 = .ok (.baload, 1) := by decide +kernel
theorem d3_17 : decode prog_30_method_3_code 17 = .ok (.bipush 45, 2) := by decide +kernel
theorem d3_19 : decode prog_30_method_3_code 19 = .ok (.if_icmp .ne 7, 3) := by decide +kernel
theorem d3_22 : decode prog_30_method_3_code 22 = .ok (.iconst 1, 1) := by decide +kernel
theorem d3_23 : decode prog_30_method_3_code 23 = .ok (.goto 4, 3) := by decide +kernel
theorem d3_26 : decode prog_30_method_3_code 26 = .ok (.iconst 0, 1) := by decide +kernel
theorem d3_27 : decode prog_30_method_3_code 27 = .ok (.istore_n 2, 1) := by decide +kernel
theorem d3_28 : decode prog_30_method_3_code 28 = .ok (.iload_n 2, 1) := by decide +kernel
theorem d3_29 : decode prog_30_method_3_code 29 = .ok (.ifCond .eq 9, 3) := by decide +kernel
theorem d3_32 : decode prog_30_method_3_code 32 = .ok (.iload_n 1, 1) := by decide +kernel
theorem d3_33 : decode prog_30_method_3_code 33 = .ok (.iconst 1, 1) := by decide +kernel
theorem d3_34 : decode prog_30_method_3_code 34 = .ok (.iadd, 1) := by decide +kernel
theorem d3_35 : decode prog_30_method_3_code 35 = .ok (.goto 4, 3) := by decide +kernel
theorem d3_38 : decode prog_30_method_3_code 38 = .ok (.iload_n 1, 1) := by decide +kernel
theorem d3_39 : decode prog_30_method_3_code 39 = .ok (.ireturn, 1) := by decide +kernel
theorem pn_3 : plainName "com/example/tidewatch/tidewatch/io/Decimal" = true := by first | (simp [plainName, overriddenIn]; done) | decide +kernel
theorem ef_3 (m : MethodId) (x0 : Addr) (x1 : Int32) : entryFrame m #[(.ref x0), (.int x1)] 3 = mkF m 0 #[.val (.ref x0), .val (.int x1), .unset] [] := by first | (simp [entryFrame, mkF, argsToLocals, Value.category]; done) | rfl
def Q3 (Z : State) (ch : Addr) (xw : Int32) (xz : Int32) (nn : Nat) (ff : Nat → Int32) (h0 : Heap) (n0 : Nat) (v : Option Value) (h : Heap) (L : List Loc) : Prop := v = some (.int (own_skip ff xw xz)) ∧ Fr n0 L ∧ h = h0
set_option maxRecDepth 65536 in
set_option maxHeartbeats 40000000 in
theorem rm3 (l : Launch) (Z : State) (a0 : Array Value) (hw : ∀ d ∈ tables_1, d.before a0 Z = true) (ws : List Jvm.Cond) (ch : Addr) (xw : Int32) (xz : Int32) (nn : Nat) (ff : Nat → Int32) (h0 : Heap) (n0 : Nat) (Z0 : n0 ≤ h0.size) (A1 : own_Ai Z h0 ch .byte nn ff) (HZ : xz.toInt = (nn : Int)) (H0 : 0 ≤ xw.toInt) :
    MetFree l (⟨"com/example/tidewatch/tidewatch/io/Decimal", "skipSign", "([BI)I"⟩ : MethodName) (head1 (Jvm.Cond.code (⟨"com/example/tidewatch/tidewatch/io/Decimal", "skipSign", "([BI)I"⟩ : MethodName) prog_30_method_3_code 3 (some .int) :: ws) ({ frames := 0, cells := 0, slots := 0, locals := 0 } : Room)) (fun a U => a = #[(.ref ch), (.int xw)] ∧ Z.Warmed39 U.vm ∧ U.heap = h0) (fun _ _ _ _ _ => True) (fun _ U o U' => ∃ v L, o = .returned v ∧ Q3 Z ch xw xz nn ff h0 n0 v U'.heap L ∧ FrameEnd U o U' L ({ frames := 0, cells := 0, slots := 0, locals := 0 } : Room).cells ({ frames := 0, cells := 0, slots := 0, locals := 0 } : Room).slots) := by
  refine MetFree.of_bodySF (plainFor_of_name pn_3) hisR ?_
  intro p e s m args below meth c s₁ Bd hml0 hP hK
  obtain ⟨rfl, hZ, hh⟩ := hP
  have hx := Bd.exec
  have hby := Bd.bytes
  have hlk : meth.locks = false := BodyLoose.notSynchronized Bd
  have hml : c.maxLocals = 3 := hml0
  have hown : s.vm.findClass "com/example/tidewatch/tidewatch/io/Decimal" = some m.cls := findClass_of_methodNamed Bd.named
  have hnm := (name_of_methodNamed Bd.named Bd.method).1
  have X0 : Stand p l e ({ frames := 0, cells := 0, slots := 0, locals := 0 } : Room) s m #[(.ref ch), (.int xw)] below meth c s₁ [] 0 0 := Stand.of_body Bd
  have e0 : s₁.heap = h0 := by rw [← hh, Bd.state]; rfl
  have N0 := Fr.nil n0
  show own_Go p e below (own_G s (Q3 Z ch xw xz nn ff h0 n0) ({ frames := 0, cells := 0, slots := 0, locals := 0 } : Room).cells ({ frames := 0, cells := 0, slots := 0, locals := 0 } : Room).slots) (s₁.setTop (entryFrame m #[(.ref ch), (.int xw)] 3))
  refine own_st (fun tgt k => castTop (ef_3 m ch xw) k) ?_
  show own_Go p e below _ (s₁.setTop (mkF m 0 #[.val (.ref ch), .val (.int xw), .unset] []))
  refine own_st (V := s₁.setTop (mkF m 3 #[.val (.ref ch), .val (.int xw), .unset] [(.int xz), (.int xw)])) (fun tgt k => ?_) ?_
  · show Steps p.tables e below (s₁.setTop (mkF m 0 #[.val (.ref ch), .val (.int xw), .unset] [])) tgt
    refine XS.iloadN X0.here hx rfl (hb hby d3_0) rfl ?_
    show Steps p.tables e below (s₁.setTop (mkF m 1 #[.val (.ref ch), .val (.int xw), .unset] [(.int xw)])) tgt
    refine XS.aloadN X0.here hx rfl (hb hby d3_1) rfl rfl ?_
    show Steps p.tables e below (s₁.setTop (mkF m 2 #[.val (.ref ch), .val (.int xw), .unset] [(.ref ch), (.int xw)])) tgt
    refine own_alen X0 hx hZ e0 A1 (z := xz) HZ (g := (mkF m 2 #[.val (.ref ch), .val (.int xw), .unset] [(.ref ch), (.int xw)])) rfl rfl (hb hby d3_2) ?_
    exact k
  by_cases hc3 : xw < xz
  · skip
    refine own_st (V := s₁.setTop (mkF m 11 #[.val (.ref ch), .val (.int xw), .unset] [(.int (43 : Int32)), (.int (ff xw.toInt.toNat))])) (fun tgt k => ?_) ?_
    · show Steps p.tables e below (s₁.setTop (mkF m 3 #[.val (.ref ch), .val (.int xw), .unset] [(.int xz), (.int xw)])) tgt
      refine XS.icmpNo X0.here hx rfl (hb hby d3_3) rfl (tlt hc3).2.1 ?_
      show Steps p.tables e below (s₁.setTop (mkF m 6 #[.val (.ref ch), .val (.int xw), .unset] [])) tgt
      refine XS.aloadN X0.here hx rfl (hb hby d3_6) rfl rfl ?_
      show Steps p.tables e below (s₁.setTop (mkF m 7 #[.val (.ref ch), .val (.int xw), .unset] [(.ref ch)])) tgt
      refine XS.iloadN X0.here hx rfl (hb hby d3_7) rfl ?_
      show Steps p.tables e below (s₁.setTop (mkF m 8 #[.val (.ref ch), .val (.int xw), .unset] [(.int xw), (.ref ch)])) tgt
      refine own_baload X0 hx hZ e0 A1 (j := xw) (k := xw.toInt.toNat) (by omega) (by have := Int32.lt_iff_toInt_lt.mp hc3; omega) (g := (mkF m 8 #[.val (.ref ch), .val (.int xw), .unset] [(.int xw), (.ref ch)])) rfl rfl (hb hby d3_8) ?_
      show Steps p.tables e below (s₁.setTop (mkF m 9 #[.val (.ref ch), .val (.int xw), .unset] [(.int (ff xw.toInt.toNat))])) tgt
      refine XS.bipush X0.here hx rfl (hb hby d3_9) ?_
      exact k
    by_cases hc11 : (ff xw.toInt.toNat) = (43 : Int32)
    · skip
      refine own_st (V := s₁.setTop (mkF m 39 #[.val (.ref ch), .val (.int xw), .val (.int (1 : Int32))] [(.int (xw + (1 : Int32)))])) (fun tgt k => ?_) ?_
      · show Steps p.tables e below (s₁.setTop (mkF m 11 #[.val (.ref ch), .val (.int xw), .unset] [(.int (43 : Int32)), (.int (ff xw.toInt.toNat))])) tgt
        refine XS.icmpYes X0.here hx rfl (pc0 := 11) (pc' := 22) rfl (hb hby d3_11) rfl (teq hc11).1 (by decide) (by decide) ?_
        show Steps p.tables e below (s₁.setTop (mkF m 22 #[.val (.ref ch), .val (.int xw), .unset] [])) tgt
        refine XS.iconst X0.here hx rfl (hb hby d3_22) ?_
        show Steps p.tables e below (s₁.setTop (mkF m 23 #[.val (.ref ch), .val (.int xw), .unset] [(.int (1 : Int32))])) tgt
        refine XS.goto X0.here hx rfl (pc0 := 23) (pc' := 27) rfl (hb hby d3_23) (by decide) (by decide) ?_
        show Steps p.tables e below (s₁.setTop (mkF m 27 #[.val (.ref ch), .val (.int xw), .unset] [(.int (1 : Int32))])) tgt
        refine XS.istoreN X0.here hx rfl (hb hby d3_27) rfl (l' := #[.val (.ref ch), .val (.int xw), .val (.int (1 : Int32))]) rfl ?_
        show Steps p.tables e below (s₁.setTop (mkF m 28 #[.val (.ref ch), .val (.int xw), .val (.int (1 : Int32))] [])) tgt
        refine XS.iloadN X0.here hx rfl (hb hby d3_28) rfl ?_
        show Steps p.tables e below (s₁.setTop (mkF m 29 #[.val (.ref ch), .val (.int xw), .val (.int (1 : Int32))] [(.int (1 : Int32))])) tgt
        refine XS.ifNo X0.here hx rfl (hb hby d3_29) rfl ((if0 _ _).trans (feq (by decide : ¬ ((1 : Int32) = (0 : Int32)))).1) ?_
        show Steps p.tables e below (s₁.setTop (mkF m 32 #[.val (.ref ch), .val (.int xw), .val (.int (1 : Int32))] [])) tgt
        refine XS.iloadN X0.here hx rfl (hb hby d3_32) rfl ?_
        show Steps p.tables e below (s₁.setTop (mkF m 33 #[.val (.ref ch), .val (.int xw), .val (.int (1 : Int32))] [(.int xw)])) tgt
        refine XS.iconst X0.here hx rfl (hb hby d3_33) ?_
        show Steps p.tables e below (s₁.setTop (mkF m 34 #[.val (.ref ch), .val (.int xw), .val (.int (1 : Int32))] [(.int (1 : Int32)), (.int xw)])) tgt
        refine XS.iadd X0.here hx rfl (hb hby d3_34) rfl ?_
        show Steps p.tables e below (s₁.setTop (mkF m 35 #[.val (.ref ch), .val (.int xw), .val (.int (1 : Int32))] [(.int (xw + (1 : Int32)))])) tgt
        refine XS.goto X0.here hx rfl (pc0 := 35) (pc' := 39) rfl (hb hby d3_35) (by decide) (by decide) ?_
        exact k
      refine own_retI X0 hx hlk Bd.returns (hb hby d3_39) ?_ (by decide) (by decide)
      show Q3 Z ch xw xz nn ff h0 n0 (some (.int (xw + (1 : Int32)))) s₁.heap _
      rw [e0]
      refine ⟨?_, N0, rfl⟩
      exact congrArg (fun q => some (Value.int q)) (by unfold own_skip; rw [if_pos hc3, if_pos hc11])
    · skip
      refine own_st (V := s₁.setTop (mkF m 19 #[.val (.ref ch), .val (.int xw), .unset] [(.int (45 : Int32)), (.int (ff xw.toInt.toNat))])) (fun tgt k => ?_) ?_
      · show Steps p.tables e below (s₁.setTop (mkF m 11 #[.val (.ref ch), .val (.int xw), .unset] [(.int (43 : Int32)), (.int (ff xw.toInt.toNat))])) tgt
        refine XS.icmpNo X0.here hx rfl (hb hby d3_11) rfl (feq hc11).1 ?_
        show Steps p.tables e below (s₁.setTop (mkF m 14 #[.val (.ref ch), .val (.int xw), .unset] [])) tgt
        refine XS.aloadN X0.here hx rfl (hb hby d3_14) rfl rfl ?_
        show Steps p.tables e below (s₁.setTop (mkF m 15 #[.val (.ref ch), .val (.int xw), .unset] [(.ref ch)])) tgt
        refine XS.iloadN X0.here hx rfl (hb hby d3_15) rfl ?_
        show Steps p.tables e below (s₁.setTop (mkF m 16 #[.val (.ref ch), .val (.int xw), .unset] [(.int xw), (.ref ch)])) tgt
        refine own_baload X0 hx hZ e0 A1 (j := xw) (k := xw.toInt.toNat) (by omega) (by have := Int32.lt_iff_toInt_lt.mp hc3; omega) (g := (mkF m 16 #[.val (.ref ch), .val (.int xw), .unset] [(.int xw), (.ref ch)])) rfl rfl (hb hby d3_16) ?_
        show Steps p.tables e below (s₁.setTop (mkF m 17 #[.val (.ref ch), .val (.int xw), .unset] [(.int (ff xw.toInt.toNat))])) tgt
        refine XS.bipush X0.here hx rfl (hb hby d3_17) ?_
        exact k
      by_cases hc19 : (ff xw.toInt.toNat) = (45 : Int32)
      · skip
        refine own_st (V := s₁.setTop (mkF m 39 #[.val (.ref ch), .val (.int xw), .val (.int (1 : Int32))] [(.int (xw + (1 : Int32)))])) (fun tgt k => ?_) ?_
        · show Steps p.tables e below (s₁.setTop (mkF m 19 #[.val (.ref ch), .val (.int xw), .unset] [(.int (45 : Int32)), (.int (ff xw.toInt.toNat))])) tgt
          refine XS.icmpNo X0.here hx rfl (hb hby d3_19) rfl (teq hc19).2 ?_
          show Steps p.tables e below (s₁.setTop (mkF m 22 #[.val (.ref ch), .val (.int xw), .unset] [])) tgt
          refine XS.iconst X0.here hx rfl (hb hby d3_22) ?_
          show Steps p.tables e below (s₁.setTop (mkF m 23 #[.val (.ref ch), .val (.int xw), .unset] [(.int (1 : Int32))])) tgt
          refine XS.goto X0.here hx rfl (pc0 := 23) (pc' := 27) rfl (hb hby d3_23) (by decide) (by decide) ?_
          show Steps p.tables e below (s₁.setTop (mkF m 27 #[.val (.ref ch), .val (.int xw), .unset] [(.int (1 : Int32))])) tgt
          refine XS.istoreN X0.here hx rfl (hb hby d3_27) rfl (l' := #[.val (.ref ch), .val (.int xw), .val (.int (1 : Int32))]) rfl ?_
          show Steps p.tables e below (s₁.setTop (mkF m 28 #[.val (.ref ch), .val (.int xw), .val (.int (1 : Int32))] [])) tgt
          refine XS.iloadN X0.here hx rfl (hb hby d3_28) rfl ?_
          show Steps p.tables e below (s₁.setTop (mkF m 29 #[.val (.ref ch), .val (.int xw), .val (.int (1 : Int32))] [(.int (1 : Int32))])) tgt
          refine XS.ifNo X0.here hx rfl (hb hby d3_29) rfl ((if0 _ _).trans (feq (by decide : ¬ ((1 : Int32) = (0 : Int32)))).1) ?_
          show Steps p.tables e below (s₁.setTop (mkF m 32 #[.val (.ref ch), .val (.int xw), .val (.int (1 : Int32))] [])) tgt
          refine XS.iloadN X0.here hx rfl (hb hby d3_32) rfl ?_
          show Steps p.tables e below (s₁.setTop (mkF m 33 #[.val (.ref ch), .val (.int xw), .val (.int (1 : Int32))] [(.int xw)])) tgt
          refine XS.iconst X0.here hx rfl (hb hby d3_33) ?_
          show Steps p.tables e below (s₁.setTop (mkF m 34 #[.val (.ref ch), .val (.int xw), .val (.int (1 : Int32))] [(.int (1 : Int32)), (.int xw)])) tgt
          refine XS.iadd X0.here hx rfl (hb hby d3_34) rfl ?_
          show Steps p.tables e below (s₁.setTop (mkF m 35 #[.val (.ref ch), .val (.int xw), .val (.int (1 : Int32))] [(.int (xw + (1 : Int32)))])) tgt
          refine XS.goto X0.here hx rfl (pc0 := 35) (pc' := 39) rfl (hb hby d3_35) (by decide) (by decide) ?_
          exact k
        refine own_retI X0 hx hlk Bd.returns (hb hby d3_39) ?_ (by decide) (by decide)
        show Q3 Z ch xw xz nn ff h0 n0 (some (.int (xw + (1 : Int32)))) s₁.heap _
        rw [e0]
        refine ⟨?_, N0, rfl⟩
        exact congrArg (fun q => some (Value.int q)) (by unfold own_skip; rw [if_pos hc3, if_neg hc11, if_pos hc19])
      · skip
        refine own_st (V := s₁.setTop (mkF m 39 #[.val (.ref ch), .val (.int xw), .val (.int (0 : Int32))] [(.int xw)])) (fun tgt k => ?_) ?_
        · show Steps p.tables e below (s₁.setTop (mkF m 19 #[.val (.ref ch), .val (.int xw), .unset] [(.int (45 : Int32)), (.int (ff xw.toInt.toNat))])) tgt
          refine XS.icmpYes X0.here hx rfl (pc0 := 19) (pc' := 26) rfl (hb hby d3_19) rfl (feq hc19).2 (by decide) (by decide) ?_
          show Steps p.tables e below (s₁.setTop (mkF m 26 #[.val (.ref ch), .val (.int xw), .unset] [])) tgt
          refine XS.iconst X0.here hx rfl (hb hby d3_26) ?_
          show Steps p.tables e below (s₁.setTop (mkF m 27 #[.val (.ref ch), .val (.int xw), .unset] [(.int (0 : Int32))])) tgt
          refine XS.istoreN X0.here hx rfl (hb hby d3_27) rfl (l' := #[.val (.ref ch), .val (.int xw), .val (.int (0 : Int32))]) rfl ?_
          show Steps p.tables e below (s₁.setTop (mkF m 28 #[.val (.ref ch), .val (.int xw), .val (.int (0 : Int32))] [])) tgt
          refine XS.iloadN X0.here hx rfl (hb hby d3_28) rfl ?_
          show Steps p.tables e below (s₁.setTop (mkF m 29 #[.val (.ref ch), .val (.int xw), .val (.int (0 : Int32))] [(.int (0 : Int32))])) tgt
          refine XS.ifYes X0.here hx rfl (pc0 := 29) (pc' := 38) rfl (hb hby d3_29) rfl ((if0 _ _).trans (teq (by decide : (0 : Int32) = (0 : Int32))).1) (by decide) (by decide) ?_
          show Steps p.tables e below (s₁.setTop (mkF m 38 #[.val (.ref ch), .val (.int xw), .val (.int (0 : Int32))] [])) tgt
          refine XS.iloadN X0.here hx rfl (hb hby d3_38) rfl ?_
          exact k
        refine own_retI X0 hx hlk Bd.returns (hb hby d3_39) ?_ (by decide) (by decide)
        show Q3 Z ch xw xz nn ff h0 n0 (some (.int xw)) s₁.heap _
        rw [e0]
        refine ⟨?_, N0, rfl⟩
        exact congrArg (fun q => some (Value.int q)) (by unfold own_skip; rw [if_pos hc3, if_neg hc11, if_neg hc19])
  · skip
    refine own_st (V := s₁.setTop (mkF m 39 #[.val (.ref ch), .val (.int xw), .val (.int (0 : Int32))] [(.int xw)])) (fun tgt k => ?_) ?_
    · show Steps p.tables e below (s₁.setTop (mkF m 3 #[.val (.ref ch), .val (.int xw), .unset] [(.int xz), (.int xw)])) tgt
      refine XS.icmpYes X0.here hx rfl (pc0 := 3) (pc' := 26) rfl (hb hby d3_3) rfl (flt hc3).2.1 (by decide) (by decide) ?_
      show Steps p.tables e below (s₁.setTop (mkF m 26 #[.val (.ref ch), .val (.int xw), .unset] [])) tgt
      refine XS.iconst X0.here hx rfl (hb hby d3_26) ?_
      show Steps p.tables e below (s₁.setTop (mkF m 27 #[.val (.ref ch), .val (.int xw), .unset] [(.int (0 : Int32))])) tgt
      refine XS.istoreN X0.here hx rfl (hb hby d3_27) rfl (l' := #[.val (.ref ch), .val (.int xw), .val (.int (0 : Int32))]) rfl ?_
      show Steps p.tables e below (s₁.setTop (mkF m 28 #[.val (.ref ch), .val (.int xw), .val (.int (0 : Int32))] [])) tgt
      refine XS.iloadN X0.here hx rfl (hb hby d3_28) rfl ?_
      show Steps p.tables e below (s₁.setTop (mkF m 29 #[.val (.ref ch), .val (.int xw), .val (.int (0 : Int32))] [(.int (0 : Int32))])) tgt
      refine XS.ifYes X0.here hx rfl (pc0 := 29) (pc' := 38) rfl (hb hby d3_29) rfl ((if0 _ _).trans (teq (by decide : (0 : Int32) = (0 : Int32))).1) (by decide) (by decide) ?_
      show Steps p.tables e below (s₁.setTop (mkF m 38 #[.val (.ref ch), .val (.int xw), .val (.int (0 : Int32))] [])) tgt
      refine XS.iloadN X0.here hx rfl (hb hby d3_38) rfl ?_
      exact k
    refine own_retI X0 hx hlk Bd.returns (hb hby d3_39) ?_ (by decide) (by decide)
    show Q3 Z ch xw xz nn ff h0 n0 (some (.int xw)) s₁.heap _
    rw [e0]
    refine ⟨?_, N0, rfl⟩
    exact congrArg (fun q => some (Value.int q)) (by unfold own_skip; rw [if_neg hc3])
theorem pn_0 : plainName "com/example/tidewatch/tidewatch/io/DecimalSkipSignPinLaw" = true := by first | (simp [plainName, overriddenIn]; done) | decide +kernel
theorem pd_0_0 : parseMethodDescriptor "(I)I" = some ⟨[.int], some .int⟩ := by decide +kernel
theorem pd_0_1 : parseMethodDescriptor "(IIIII)I" = some ⟨[.int, .int, .int, .int, .int], some .int⟩ := by decide +kernel
theorem pd_0_2 : parseMethodDescriptor "([BI)I" = some ⟨[(.array .byte), .int], some .int⟩ := by decide +kernel
theorem ef_0 (m : MethodId) (x0 : Int32) (x1 : Int32) (x2 : Int32) (x3 : Int32) (x4 : Int32) : entryFrame m #[(.int x0), (.int x1), (.int x2), (.int x3), (.int x4)] maxLocals = mkF m 0 #[.val (.int x0), .val (.int x1), .val (.int x2), .val (.int x3), .val (.int x4), .unset, .unset, .unset, .unset, .unset, .unset, .unset, .unset, .unset] [] := by first | (simp [entryFrame, mkF, argsToLocals, Value.category, maxLocals]; done) | rfl
def Q0 (Z : State) (xn : Int32) (xa : Int32) (p0 : Int32) (p1 : Int32) (p2 : Int32) (h0 : Heap) (n0 : Nat) (v : Option Value) (h : Heap) (L : List Loc) : Prop := v = some (.int (1 : Int32)) ∧ Fr n0 L
set_option maxRecDepth 65536 in
set_option maxHeartbeats 40000000 in
theorem rm0 (l : Launch) (Z : State) (a0 : Array Value) (hw : ∀ d ∈ tables_1, d.before a0 Z = true) (ws : List Jvm.Cond) (xn : Int32) (xa : Int32) (p0 : Int32) (p1 : Int32) (p2 : Int32) (h0 : Heap) (n0 : Nat) (Z0 : n0 ≤ h0.size) :
    MetFree l x (head1 (Jvm.Cond.code x code maxLocals ret :: ws) room_1) (fun a U => a = #[(.int xn), (.int xa), (.int p0), (.int p1), (.int p2)] ∧ Z.Warmed39 U.vm ∧ U.heap = h0) (fun _ _ _ _ _ => True) (fun _ U o U' => ∃ v L, o = .returned v ∧ Q0 Z xn xa p0 p1 p2 h0 n0 v U'.heap L ∧ FrameEnd U o U' L 16 128) := by
  refine MetFree.of_bodySF (plainFor_of_name pn_0) hisR ?_
  intro p e s m args below meth c s₁ Bd hml0 hP hK
  obtain ⟨rfl, hZ, hh⟩ := hP
  have hx := Bd.exec
  have hby := Bd.bytes
  have hlk : meth.locks = false := BodyLoose.notSynchronized Bd
  have hml : c.maxLocals = 14 := hml0
  have hown : s.vm.findClass "com/example/tidewatch/tidewatch/io/DecimalSkipSignPinLaw" = some m.cls := findClass_of_methodNamed Bd.named
  have hnm := (name_of_methodNamed Bd.named Bd.method).1
  have X0 : Stand p l e room_1 s m #[(.int xn), (.int xa), (.int p0), (.int p1), (.int p2)] below meth c s₁ [] 0 0 := Stand.of_body Bd
  have e0 : s₁.heap = h0 := by rw [← hh, Bd.state]; rfl
  have N0 := Fr.nil n0
  show own_Go p e below (own_G s (Q0 Z xn xa p0 p1 p2 h0 n0) 16 128) (s₁.setTop (entryFrame m #[(.int xn), (.int xa), (.int p0), (.int p1), (.int p2)] maxLocals))
  refine own_st (fun tgt k => castTop (ef_0 m xn xa p0 p1 p2) k) ?_
  show own_Go p e below _ (s₁.setTop (mkF m 0 #[.val (.int xn), .val (.int xa), .val (.int p0), .val (.int p1), .val (.int p2), .unset, .unset, .unset, .unset, .unset, .unset, .unset, .unset, .unset] []))
  refine own_st (V := s₁.setTop (mkF m 5 #[.val (.int xn), .val (.int xa), .val (.int p0), .val (.int p1), .val (.int p2), .val (.int (xn &&& (3 : Int32))), .unset, .unset, .unset, .unset, .unset, .unset, .unset, .unset] [])) (fun tgt k => ?_) ?_
  · show Steps p.tables e below (s₁.setTop (mkF m 0 #[.val (.int xn), .val (.int xa), .val (.int p0), .val (.int p1), .val (.int p2), .unset, .unset, .unset, .unset, .unset, .unset, .unset, .unset, .unset] [])) tgt
    refine XS.iloadN X0.here hx rfl (hb hby at_0) rfl ?_
    show Steps p.tables e below (s₁.setTop (mkF m 1 #[.val (.int xn), .val (.int xa), .val (.int p0), .val (.int p1), .val (.int p2), .unset, .unset, .unset, .unset, .unset, .unset, .unset, .unset, .unset] [(.int xn)])) tgt
    refine XS.iconst X0.here hx rfl (hb hby at_1) ?_
    show Steps p.tables e below (s₁.setTop (mkF m 2 #[.val (.int xn), .val (.int xa), .val (.int p0), .val (.int p1), .val (.int p2), .unset, .unset, .unset, .unset, .unset, .unset, .unset, .unset, .unset] [(.int (3 : Int32)), (.int xn)])) tgt
    refine XS.iand X0.here hx rfl (hb hby at_2) rfl ?_
    show Steps p.tables e below (s₁.setTop (mkF m 3 #[.val (.int xn), .val (.int xa), .val (.int p0), .val (.int p1), .val (.int p2), .unset, .unset, .unset, .unset, .unset, .unset, .unset, .unset, .unset] [(.int (xn &&& (3 : Int32)))])) tgt
    refine XS.istore X0.here hx rfl (hb hby at_3) rfl (l' := #[.val (.int xn), .val (.int xa), .val (.int p0), .val (.int p1), .val (.int p2), .val (.int (xn &&& (3 : Int32))), .unset, .unset, .unset, .unset, .unset, .unset, .unset, .unset]) rfl ?_
    exact k
  rcases own_mask4 xn with q | q | q | q
  · skip
    rw [show (xn &&& (3 : Int32)) = (0 : Int32) from q]
    refine own_st (V := s₁.setTop (mkF m 8 #[.val (.int xn), .val (.int xa), .val (.int p0), .val (.int p1), .val (.int p2), .val (.int (0 : Int32)), .unset, .unset, .unset, .unset, .unset, .unset, .unset, .unset] [(.int (xn &&& (4 : Int32)))])) (fun tgt k => ?_) ?_
    · show Steps p.tables e below (s₁.setTop (mkF m 5 #[.val (.int xn), .val (.int xa), .val (.int p0), .val (.int p1), .val (.int p2), .val (.int (0 : Int32)), .unset, .unset, .unset, .unset, .unset, .unset, .unset, .unset] [])) tgt
      refine XS.iloadN X0.here hx rfl (hb hby at_5) rfl ?_
      show Steps p.tables e below (s₁.setTop (mkF m 6 #[.val (.int xn), .val (.int xa), .val (.int p0), .val (.int p1), .val (.int p2), .val (.int (0 : Int32)), .unset, .unset, .unset, .unset, .unset, .unset, .unset, .unset] [(.int xn)])) tgt
      refine XS.iconst X0.here hx rfl (hb hby at_6) ?_
      show Steps p.tables e below (s₁.setTop (mkF m 7 #[.val (.int xn), .val (.int xa), .val (.int p0), .val (.int p1), .val (.int p2), .val (.int (0 : Int32)), .unset, .unset, .unset, .unset, .unset, .unset, .unset, .unset] [(.int (4 : Int32)), (.int xn)])) tgt
      refine XS.iand X0.here hx rfl (hb hby at_7) rfl ?_
      exact k
    obtain ⟨av, hav⟩ : ∃ z : Int32, z = (if (xn &&& (4 : Int32)) = (0 : Int32) then (xa &&& (3 : Int32)) else (xa &&& (2147483647 : Int32))) := ⟨_, rfl⟩
    refine own_st (V := s₁.setTop (mkF m 21 #[.val (.int xn), .val (.int xa), .val (.int p0), .val (.int p1), .val (.int p2), .val (.int (0 : Int32)), .unset, .unset, .unset, .unset, .unset, .unset, .unset, .unset] [(.int av)])) (fun tgt k => ?_) ?_
    · skip
      by_cases hc8_2 : (xn &&& (4 : Int32)) = (0 : Int32)
      · skip
        rw [if_pos hc8_2] at hav
        show Steps p.tables e below (s₁.setTop (mkF m 8 #[.val (.int xn), .val (.int xa), .val (.int p0), .val (.int p1), .val (.int p2), .val (.int (0 : Int32)), .unset, .unset, .unset, .unset, .unset, .unset, .unset, .unset] [(.int (xn &&& (4 : Int32)))])) tgt
        refine XS.ifYes X0.here hx rfl (pc0 := 8) (pc' := 18) rfl (hb hby at_8) rfl ((if0 _ _).trans (teq hc8_2).1) (by decide) (by decide) ?_
        show Steps p.tables e below (s₁.setTop (mkF m 18 #[.val (.int xn), .val (.int xa), .val (.int p0), .val (.int p1), .val (.int p2), .val (.int (0 : Int32)), .unset, .unset, .unset, .unset, .unset, .unset, .unset, .unset] [])) tgt
        refine XS.iloadN X0.here hx rfl (hb hby at_18) rfl ?_
        show Steps p.tables e below (s₁.setTop (mkF m 19 #[.val (.int xn), .val (.int xa), .val (.int p0), .val (.int p1), .val (.int p2), .val (.int (0 : Int32)), .unset, .unset, .unset, .unset, .unset, .unset, .unset, .unset] [(.int xa)])) tgt
        refine XS.iconst X0.here hx rfl (hb hby at_19) ?_
        show Steps p.tables e below (s₁.setTop (mkF m 20 #[.val (.int xn), .val (.int xa), .val (.int p0), .val (.int p1), .val (.int p2), .val (.int (0 : Int32)), .unset, .unset, .unset, .unset, .unset, .unset, .unset, .unset] [(.int (3 : Int32)), (.int xa)])) tgt
        refine XS.iand X0.here hx rfl (hb hby at_20) rfl ?_
        rw [hav] at k
        exact k
      · skip
        rw [if_neg hc8_2] at hav
        show Steps p.tables e below (s₁.setTop (mkF m 8 #[.val (.int xn), .val (.int xa), .val (.int p0), .val (.int p1), .val (.int p2), .val (.int (0 : Int32)), .unset, .unset, .unset, .unset, .unset, .unset, .unset, .unset] [(.int (xn &&& (4 : Int32)))])) tgt
        refine XS.ifNo X0.here hx rfl (hb hby at_8) rfl ((if0 _ _).trans (feq hc8_2).1) ?_
        show Steps p.tables e below (s₁.setTop (mkF m 11 #[.val (.int xn), .val (.int xa), .val (.int p0), .val (.int p1), .val (.int p2), .val (.int (0 : Int32)), .unset, .unset, .unset, .unset, .unset, .unset, .unset, .unset] [])) tgt
        refine XS.iloadN X0.here hx rfl (hb hby at_11) rfl ?_
        show Steps p.tables e below (s₁.setTop (mkF m 12 #[.val (.int xn), .val (.int xa), .val (.int p0), .val (.int p1), .val (.int p2), .val (.int (0 : Int32)), .unset, .unset, .unset, .unset, .unset, .unset, .unset, .unset] [(.int xa)])) tgt
        refine X0.ldcInt hx hown (mvT hZ (hw _ (List.mem_of_getElem? (i := 12) rfl))) (g := (mkF m 12 #[.val (.int xn), .val (.int xa), .val (.int p0), .val (.int p1), .val (.int p2), .val (.int (0 : Int32)), .unset, .unset, .unset, .unset, .unset, .unset, .unset, .unset] [(.int xa)])) rfl (hb hby at_12) _ ?_
        show Steps p.tables e below (s₁.setTop (mkF m 14 #[.val (.int xn), .val (.int xa), .val (.int p0), .val (.int p1), .val (.int p2), .val (.int (0 : Int32)), .unset, .unset, .unset, .unset, .unset, .unset, .unset, .unset] [(.int (2147483647 : Int32)), (.int xa)])) tgt
        refine XS.iand X0.here hx rfl (hb hby at_14) rfl ?_
        show Steps p.tables e below (s₁.setTop (mkF m 15 #[.val (.int xn), .val (.int xa), .val (.int p0), .val (.int p1), .val (.int p2), .val (.int (0 : Int32)), .unset, .unset, .unset, .unset, .unset, .unset, .unset, .unset] [(.int (xa &&& (2147483647 : Int32)))])) tgt
        refine XS.goto X0.here hx rfl (pc0 := 15) (pc' := 21) rfl (hb hby at_15) (by decide) (by decide) ?_
        rw [hav] at k
        exact k
    have hav0 : 0 ≤ av.toInt := by
      rw [hav]; split
      · exact (c_and xa 3 (by decide)).1
      · exact (c_and xa 2147483647 (by decide)).1
    refine own_st (V := s₁.setTop (mkF m 24 #[.val (.int xn), .val (.int xa), .val (.int p0), .val (.int p1), .val (.int p2), .val (.int (0 : Int32)), .val (.int av), .unset, .unset, .unset, .unset, .unset, .unset, .unset] [(.int p0)])) (fun tgt k => ?_) ?_
    · show Steps p.tables e below (s₁.setTop (mkF m 21 #[.val (.int xn), .val (.int xa), .val (.int p0), .val (.int p1), .val (.int p2), .val (.int (0 : Int32)), .unset, .unset, .unset, .unset, .unset, .unset, .unset, .unset] [(.int av)])) tgt
      refine XS.istore X0.here hx rfl (hb hby at_21) rfl (l' := #[.val (.int xn), .val (.int xa), .val (.int p0), .val (.int p1), .val (.int p2), .val (.int (0 : Int32)), .val (.int av), .unset, .unset, .unset, .unset, .unset, .unset, .unset]) rfl ?_
      show Steps p.tables e below (s₁.setTop (mkF m 23 #[.val (.int xn), .val (.int xa), .val (.int p0), .val (.int p1), .val (.int p2), .val (.int (0 : Int32)), .val (.int av), .unset, .unset, .unset, .unset, .unset, .unset, .unset] [])) tgt
      refine XS.iloadN X0.here hx rfl (hb hby at_23) rfl ?_
      exact k
    obtain ⟨_, _, ⟨T1, L1, k1, n1⟩, -, X1, ⟨Lc1, hQ1, l1, y1, z1⟩, st1⟩ := Jvm.LawKit.callS X0 hx (y := (⟨"com/example/tidewatch/tidewatch/io/DecimalSkipSignPinLaw", "pick", "(I)I"⟩ : MethodName)) hown (mvT hZ (hw _ (List.mem_of_getElem? (i := 0) rfl))) (mvT hZ (hw _ (List.mem_of_getElem? (i := 1) rfl))) (mvT hZ (hw _ (List.mem_of_getElem? (i := 2) rfl))) (mvT hZ (hw _ (List.mem_of_getElem? (i := 3) rfl))) (by decide) (backOf (W := 0) (rm1 l Z a0 hw [] p0 h0 n0 Z0 ) hZ (hw _ (List.mem_of_getElem? (i := 3) rfl)) (hw _ (List.mem_of_getElem? (i := 2) rfl)) (by decide) (by decide)) (g := (mkF m 24 #[.val (.int xn), .val (.int xa), .val (.int p0), .val (.int p1), .val (.int p2), .val (.int (0 : Int32)), .val (.int av), .unset, .unset, .unset, .unset, .unset, .unset, .unset] [(.int p0)])) rfl (by rw [hml]; rfl) (argsL := [(.int p0)]) (rest := []) (lenOf pd_0_0 rfl) rfl (by show 2 * 0 + _ ≤ _; exact Nat.le_of_eq rfl) (hb hby at_24) (fun _ _ => ⟨rfl, e0, (by decide : 0 + 0 ≤ _), (by decide : 0 + 0 ≤ _)⟩)
    dsimp only [Pt.U, Pt.locs, Pt.cells, Pt.slots] at X1 l1 y1 z1 st1 hQ1
    subst l1 y1 z1
    obtain ⟨rfl, N1q, K1⟩ := hQ1
    have N1 := Fr.app N0 N1q
    refine own_st st1 ?_
    show own_Go p e below _ (T1.setTop (mkF m 27 #[.val (.int xn), .val (.int xa), .val (.int p0), .val (.int p1), .val (.int p2), .val (.int (0 : Int32)), .val (.int av), .unset, .unset, .unset, .unset, .unset, .unset, .unset] [(.int (own_pick p0))]))
    refine own_st (V := T1.setTop (mkF m 29 #[.val (.int xn), .val (.int xa), .val (.int p0), .val (.int p1), .val (.int p2), .val (.int (0 : Int32)), .val (.int av), .val (.int (own_pick p0)), .unset, .unset, .unset, .unset, .unset, .unset] [])) (fun tgt k => ?_) ?_
    · show Steps p.tables e below (T1.setTop (mkF m 27 #[.val (.int xn), .val (.int xa), .val (.int p0), .val (.int p1), .val (.int p2), .val (.int (0 : Int32)), .val (.int av), .unset, .unset, .unset, .unset, .unset, .unset, .unset] [(.int (own_pick p0))])) tgt
      refine XS.istore X1.here hx rfl (hb hby at_27) rfl (l' := #[.val (.int xn), .val (.int xa), .val (.int p0), .val (.int p1), .val (.int p2), .val (.int (0 : Int32)), .val (.int av), .val (.int (own_pick p0)), .unset, .unset, .unset, .unset, .unset, .unset]) rfl ?_
      exact k
    obtain ⟨v0, hv0⟩ : ∃ z : Int32, z = (own_pick p0) := ⟨_, rfl⟩
    rw [← hv0]
    have v0b : v0.toInt8.toInt32 = v0 := by rw [hv0]; exact own_pick8 p0
    refine own_st (V := T1.setTop (mkF m 30 #[.val (.int xn), .val (.int xa), .val (.int p0), .val (.int p1), .val (.int p2), .val (.int (0 : Int32)), .val (.int av), .val (.int v0), .unset, .unset, .unset, .unset, .unset, .unset] [(.int p1)])) (fun tgt k => ?_) ?_
    · show Steps p.tables e below (T1.setTop (mkF m 29 #[.val (.int xn), .val (.int xa), .val (.int p0), .val (.int p1), .val (.int p2), .val (.int (0 : Int32)), .val (.int av), .val (.int v0), .unset, .unset, .unset, .unset, .unset, .unset] [])) tgt
      refine XS.iloadN X1.here hx rfl (hb hby at_29) rfl ?_
      exact k
    obtain ⟨_, _, ⟨T2, L2, k2, n2⟩, -, X2, ⟨Lc2, hQ2, l2, y2, z2⟩, st2⟩ := Jvm.LawKit.callS X1 hx (y := (⟨"com/example/tidewatch/tidewatch/io/DecimalSkipSignPinLaw", "pick", "(I)I"⟩ : MethodName)) hown (mvT hZ (hw _ (List.mem_of_getElem? (i := 0) rfl))) (mvT hZ (hw _ (List.mem_of_getElem? (i := 1) rfl))) (mvT hZ (hw _ (List.mem_of_getElem? (i := 2) rfl))) (mvT hZ (hw _ (List.mem_of_getElem? (i := 3) rfl))) (by decide) (backOf (W := 0) (rm1 l Z a0 hw [] p1 h0 n0 Z0 ) hZ (hw _ (List.mem_of_getElem? (i := 3) rfl)) (hw _ (List.mem_of_getElem? (i := 2) rfl)) (by decide) (by decide)) (g := (mkF m 30 #[.val (.int xn), .val (.int xa), .val (.int p0), .val (.int p1), .val (.int p2), .val (.int (0 : Int32)), .val (.int av), .val (.int v0), .unset, .unset, .unset, .unset, .unset, .unset] [(.int p1)])) rfl (by rw [hml]; rfl) (argsL := [(.int p1)]) (rest := []) (lenOf pd_0_0 rfl) rfl (by show 2 * 0 + _ ≤ _; exact Nat.le_of_eq rfl) (hb hby at_30) (fun _ _ => ⟨rfl, K1, (by decide : 0 + 0 ≤ _), (by decide : 0 + 0 ≤ _)⟩)
    dsimp only [Pt.U, Pt.locs, Pt.cells, Pt.slots] at X2 l2 y2 z2 st2 hQ2
    subst l2 y2 z2
    obtain ⟨rfl, N2q, K2⟩ := hQ2
    have N2 := Fr.app N1 N2q
    refine own_st st2 ?_
    show own_Go p e below _ (T2.setTop (mkF m 33 #[.val (.int xn), .val (.int xa), .val (.int p0), .val (.int p1), .val (.int p2), .val (.int (0 : Int32)), .val (.int av), .val (.int v0), .unset, .unset, .unset, .unset, .unset, .unset] [(.int (own_pick p1))]))
    refine own_st (V := T2.setTop (mkF m 35 #[.val (.int xn), .val (.int xa), .val (.int p0), .val (.int p1), .val (.int p2), .val (.int (0 : Int32)), .val (.int av), .val (.int v0), .val (.int (own_pick p1)), .unset, .unset, .unset, .unset, .unset] [])) (fun tgt k => ?_) ?_
    · show Steps p.tables e below (T2.setTop (mkF m 33 #[.val (.int xn), .val (.int xa), .val (.int p0), .val (.int p1), .val (.int p2), .val (.int (0 : Int32)), .val (.int av), .val (.int v0), .unset, .unset, .unset, .unset, .unset, .unset] [(.int (own_pick p1))])) tgt
      refine XS.istore X2.here hx rfl (hb hby at_33) rfl (l' := #[.val (.int xn), .val (.int xa), .val (.int p0), .val (.int p1), .val (.int p2), .val (.int (0 : Int32)), .val (.int av), .val (.int v0), .val (.int (own_pick p1)), .unset, .unset, .unset, .unset, .unset]) rfl ?_
      exact k
    obtain ⟨v1, hv1⟩ : ∃ z : Int32, z = (own_pick p1) := ⟨_, rfl⟩
    rw [← hv1]
    have v1b : v1.toInt8.toInt32 = v1 := by rw [hv1]; exact own_pick8 p1
    refine own_st (V := T2.setTop (mkF m 37 #[.val (.int xn), .val (.int xa), .val (.int p0), .val (.int p1), .val (.int p2), .val (.int (0 : Int32)), .val (.int av), .val (.int v0), .val (.int v1), .unset, .unset, .unset, .unset, .unset] [(.int p2)])) (fun tgt k => ?_) ?_
    · show Steps p.tables e below (T2.setTop (mkF m 35 #[.val (.int xn), .val (.int xa), .val (.int p0), .val (.int p1), .val (.int p2), .val (.int (0 : Int32)), .val (.int av), .val (.int v0), .val (.int v1), .unset, .unset, .unset, .unset, .unset] [])) tgt
      refine XS.iload X2.here hx rfl (hb hby at_35) rfl ?_
      exact k
    obtain ⟨_, _, ⟨T3, L3, k3, n3⟩, -, X3, ⟨Lc3, hQ3, l3, y3, z3⟩, st3⟩ := Jvm.LawKit.callS X2 hx (y := (⟨"com/example/tidewatch/tidewatch/io/DecimalSkipSignPinLaw", "pick", "(I)I"⟩ : MethodName)) hown (mvT hZ (hw _ (List.mem_of_getElem? (i := 0) rfl))) (mvT hZ (hw _ (List.mem_of_getElem? (i := 1) rfl))) (mvT hZ (hw _ (List.mem_of_getElem? (i := 2) rfl))) (mvT hZ (hw _ (List.mem_of_getElem? (i := 3) rfl))) (by decide) (backOf (W := 0) (rm1 l Z a0 hw [] p2 h0 n0 Z0 ) hZ (hw _ (List.mem_of_getElem? (i := 3) rfl)) (hw _ (List.mem_of_getElem? (i := 2) rfl)) (by decide) (by decide)) (g := (mkF m 37 #[.val (.int xn), .val (.int xa), .val (.int p0), .val (.int p1), .val (.int p2), .val (.int (0 : Int32)), .val (.int av), .val (.int v0), .val (.int v1), .unset, .unset, .unset, .unset, .unset] [(.int p2)])) rfl (by rw [hml]; rfl) (argsL := [(.int p2)]) (rest := []) (lenOf pd_0_0 rfl) rfl (by show 2 * 0 + _ ≤ _; exact Nat.le_of_eq rfl) (hb hby at_37) (fun _ _ => ⟨rfl, K2, (by decide : 0 + 0 ≤ _), (by decide : 0 + 0 ≤ _)⟩)
    dsimp only [Pt.U, Pt.locs, Pt.cells, Pt.slots] at X3 l3 y3 z3 st3 hQ3
    subst l3 y3 z3
    obtain ⟨rfl, N3q, K3⟩ := hQ3
    have N3 := Fr.app N2 N3q
    refine own_st st3 ?_
    show own_Go p e below _ (T3.setTop (mkF m 40 #[.val (.int xn), .val (.int xa), .val (.int p0), .val (.int p1), .val (.int p2), .val (.int (0 : Int32)), .val (.int av), .val (.int v0), .val (.int v1), .unset, .unset, .unset, .unset, .unset] [(.int (own_pick p2))]))
    refine own_st (V := T3.setTop (mkF m 42 #[.val (.int xn), .val (.int xa), .val (.int p0), .val (.int p1), .val (.int p2), .val (.int (0 : Int32)), .val (.int av), .val (.int v0), .val (.int v1), .val (.int (own_pick p2)), .unset, .unset, .unset, .unset] [])) (fun tgt k => ?_) ?_
    · show Steps p.tables e below (T3.setTop (mkF m 40 #[.val (.int xn), .val (.int xa), .val (.int p0), .val (.int p1), .val (.int p2), .val (.int (0 : Int32)), .val (.int av), .val (.int v0), .val (.int v1), .unset, .unset, .unset, .unset, .unset] [(.int (own_pick p2))])) tgt
      refine XS.istore X3.here hx rfl (hb hby at_40) rfl (l' := #[.val (.int xn), .val (.int xa), .val (.int p0), .val (.int p1), .val (.int p2), .val (.int (0 : Int32)), .val (.int av), .val (.int v0), .val (.int v1), .val (.int (own_pick p2)), .unset, .unset, .unset, .unset]) rfl ?_
      exact k
    obtain ⟨v2, hv2⟩ : ∃ z : Int32, z = (own_pick p2) := ⟨_, rfl⟩
    rw [← hv2]
    have v2b : v2.toInt8.toInt32 = v2 := by rw [hv2]; exact own_pick8 p2
    refine own_st (V := T3.setTop (mkF m 44 #[.val (.int xn), .val (.int xa), .val (.int p0), .val (.int p1), .val (.int p2), .val (.int (0 : Int32)), .val (.int av), .val (.int v0), .val (.int v1), .val (.int v2), .unset, .unset, .unset, .unset] [(.int (0 : Int32))])) (fun tgt k => ?_) ?_
    · show Steps p.tables e below (T3.setTop (mkF m 42 #[.val (.int xn), .val (.int xa), .val (.int p0), .val (.int p1), .val (.int p2), .val (.int (0 : Int32)), .val (.int av), .val (.int v0), .val (.int v1), .val (.int v2), .unset, .unset, .unset, .unset] [])) tgt
      refine XS.iload X3.here hx rfl (hb hby at_42) rfl ?_
      exact k
    obtain ⟨T4, h4, c4, X4, e4, E4, A4, st4⟩ := own_newarr X3 hx hZ (hw _ (List.mem_of_getElem? (i := 4) rfl)) K3 (g := (mkF m 44 #[.val (.int xn), .val (.int xa), .val (.int p0), .val (.int p1), .val (.int p2), .val (.int (0 : Int32)), .val (.int av), .val (.int v0), .val (.int v1), .val (.int v2), .unset, .unset, .unset, .unset] [(.int (0 : Int32))])) rfl (hb hby at_44) rfl (k := 0) rfl (cap := 0) (by decide) (by decide) (by decide) (by decide)
    obtain ⟨ca, g4⟩ : ∃ z, z = h0.size := ⟨_, rfl⟩
    rw [← g4] at A4 st4
    have g_ca : n0 ≤ ca := Nat.le_trans Z0 (Nat.le_of_eq g4.symm)
    have A_ca_4 : own_Ai Z h4 ca .byte 0 (fun _ => 0) := own_Ai.new A4
    have Zs4 : n0 ≤ h4.size := Nat.le_trans Z0 E4.1
    refine own_st st4 ?_
    show own_Go p e below _ (T4.setTop (mkF m 46 #[.val (.int xn), .val (.int xa), .val (.int p0), .val (.int p1), .val (.int p2), .val (.int (0 : Int32)), .val (.int av), .val (.int v0), .val (.int v1), .val (.int v2), .unset, .unset, .unset, .unset] [(.ref ca)]))
    refine own_st (V := T4.setTop (mkF m 96 #[.val (.int xn), .val (.int xa), .val (.int p0), .val (.int p1), .val (.int p2), .val (.int (0 : Int32)), .val (.int av), .val (.int v0), .val (.int v1), .val (.int v2), .val (.ref ca), .unset, .unset, .unset] [(.int v2), (.int v1), (.int v0), (.int (0 : Int32)), (.int av)])) (fun tgt k => ?_) ?_
    · show Steps p.tables e below (T4.setTop (mkF m 46 #[.val (.int xn), .val (.int xa), .val (.int p0), .val (.int p1), .val (.int p2), .val (.int (0 : Int32)), .val (.int av), .val (.int v0), .val (.int v1), .val (.int v2), .unset, .unset, .unset, .unset] [(.ref ca)])) tgt
      refine XS.astore X4.here hx rfl (hb hby at_46) rfl rfl (l' := #[.val (.int xn), .val (.int xa), .val (.int p0), .val (.int p1), .val (.int p2), .val (.int (0 : Int32)), .val (.int av), .val (.int v0), .val (.int v1), .val (.int v2), .val (.ref ca), .unset, .unset, .unset]) rfl ?_
      show Steps p.tables e below (T4.setTop (mkF m 48 #[.val (.int xn), .val (.int xa), .val (.int p0), .val (.int p1), .val (.int p2), .val (.int (0 : Int32)), .val (.int av), .val (.int v0), .val (.int v1), .val (.int v2), .val (.ref ca), .unset, .unset, .unset] [])) tgt
      refine XS.iload X4.here hx rfl (hb hby at_48) rfl ?_
      show Steps p.tables e below (T4.setTop (mkF m 50 #[.val (.int xn), .val (.int xa), .val (.int p0), .val (.int p1), .val (.int p2), .val (.int (0 : Int32)), .val (.int av), .val (.int v0), .val (.int v1), .val (.int v2), .val (.ref ca), .unset, .unset, .unset] [(.int (0 : Int32))])) tgt
      refine XS.ifYes X4.here hx rfl (pc0 := 50) (pc' := 60) rfl (hb hby at_50) rfl ((if0 _ _).trans (flt (by decide : ¬ ((0 : Int32) < (0 : Int32)))).2.2.2) (by decide) (by decide) ?_
      show Steps p.tables e below (T4.setTop (mkF m 60 #[.val (.int xn), .val (.int xa), .val (.int p0), .val (.int p1), .val (.int p2), .val (.int (0 : Int32)), .val (.int av), .val (.int v0), .val (.int v1), .val (.int v2), .val (.ref ca), .unset, .unset, .unset] [])) tgt
      refine XS.iload X4.here hx rfl (hb hby at_60) rfl ?_
      show Steps p.tables e below (T4.setTop (mkF m 62 #[.val (.int xn), .val (.int xa), .val (.int p0), .val (.int p1), .val (.int p2), .val (.int (0 : Int32)), .val (.int av), .val (.int v0), .val (.int v1), .val (.int v2), .val (.ref ca), .unset, .unset, .unset] [(.int (0 : Int32))])) tgt
      refine XS.iconst X4.here hx rfl (hb hby at_62) ?_
      show Steps p.tables e below (T4.setTop (mkF m 63 #[.val (.int xn), .val (.int xa), .val (.int p0), .val (.int p1), .val (.int p2), .val (.int (0 : Int32)), .val (.int av), .val (.int v0), .val (.int v1), .val (.int v2), .val (.ref ca), .unset, .unset, .unset] [(.int (1 : Int32)), (.int (0 : Int32))])) tgt
      refine XS.icmpYes X4.here hx rfl (pc0 := 63) (pc' := 73) rfl (hb hby at_63) rfl (flt (by decide : ¬ ((1 : Int32) < (0 : Int32)))).2.2.2 (by decide) (by decide) ?_
      show Steps p.tables e below (T4.setTop (mkF m 73 #[.val (.int xn), .val (.int xa), .val (.int p0), .val (.int p1), .val (.int p2), .val (.int (0 : Int32)), .val (.int av), .val (.int v0), .val (.int v1), .val (.int v2), .val (.ref ca), .unset, .unset, .unset] [])) tgt
      refine XS.iload X4.here hx rfl (hb hby at_73) rfl ?_
      show Steps p.tables e below (T4.setTop (mkF m 75 #[.val (.int xn), .val (.int xa), .val (.int p0), .val (.int p1), .val (.int p2), .val (.int (0 : Int32)), .val (.int av), .val (.int v0), .val (.int v1), .val (.int v2), .val (.ref ca), .unset, .unset, .unset] [(.int (0 : Int32))])) tgt
      refine XS.iconst X4.here hx rfl (hb hby at_75) ?_
      show Steps p.tables e below (T4.setTop (mkF m 76 #[.val (.int xn), .val (.int xa), .val (.int p0), .val (.int p1), .val (.int p2), .val (.int (0 : Int32)), .val (.int av), .val (.int v0), .val (.int v1), .val (.int v2), .val (.ref ca), .unset, .unset, .unset] [(.int (2 : Int32)), (.int (0 : Int32))])) tgt
      refine XS.icmpYes X4.here hx rfl (pc0 := 76) (pc' := 86) rfl (hb hby at_76) rfl (flt (by decide : ¬ ((2 : Int32) < (0 : Int32)))).2.2.2 (by decide) (by decide) ?_
      show Steps p.tables e below (T4.setTop (mkF m 86 #[.val (.int xn), .val (.int xa), .val (.int p0), .val (.int p1), .val (.int p2), .val (.int (0 : Int32)), .val (.int av), .val (.int v0), .val (.int v1), .val (.int v2), .val (.ref ca), .unset, .unset, .unset] [])) tgt
      refine XS.iload X4.here hx rfl (hb hby at_86) rfl ?_
      show Steps p.tables e below (T4.setTop (mkF m 88 #[.val (.int xn), .val (.int xa), .val (.int p0), .val (.int p1), .val (.int p2), .val (.int (0 : Int32)), .val (.int av), .val (.int v0), .val (.int v1), .val (.int v2), .val (.ref ca), .unset, .unset, .unset] [(.int av)])) tgt
      refine XS.iload X4.here hx rfl (hb hby at_88) rfl ?_
      show Steps p.tables e below (T4.setTop (mkF m 90 #[.val (.int xn), .val (.int xa), .val (.int p0), .val (.int p1), .val (.int p2), .val (.int (0 : Int32)), .val (.int av), .val (.int v0), .val (.int v1), .val (.int v2), .val (.ref ca), .unset, .unset, .unset] [(.int (0 : Int32)), (.int av)])) tgt
      refine XS.iload X4.here hx rfl (hb hby at_90) rfl ?_
      show Steps p.tables e below (T4.setTop (mkF m 92 #[.val (.int xn), .val (.int xa), .val (.int p0), .val (.int p1), .val (.int p2), .val (.int (0 : Int32)), .val (.int av), .val (.int v0), .val (.int v1), .val (.int v2), .val (.ref ca), .unset, .unset, .unset] [(.int v0), (.int (0 : Int32)), (.int av)])) tgt
      refine XS.iload X4.here hx rfl (hb hby at_92) rfl ?_
      show Steps p.tables e below (T4.setTop (mkF m 94 #[.val (.int xn), .val (.int xa), .val (.int p0), .val (.int p1), .val (.int p2), .val (.int (0 : Int32)), .val (.int av), .val (.int v0), .val (.int v1), .val (.int v2), .val (.ref ca), .unset, .unset, .unset] [(.int v1), (.int v0), (.int (0 : Int32)), (.int av)])) tgt
      refine XS.iload X4.here hx rfl (hb hby at_94) rfl ?_
      exact k
    obtain ⟨_, _, ⟨T5, L5, k5, n5⟩, -, X5, ⟨Lc5, hQ5, l5, y5, z5⟩, st5⟩ := Jvm.LawKit.callS X4 hx (y := (⟨"com/example/tidewatch/tidewatch/io/DecimalSkipSignPinLaw", "drawnAt", "(IIIII)I"⟩ : MethodName)) hown (mvT hZ (hw _ (List.mem_of_getElem? (i := 5) rfl))) (mvT hZ (hw _ (List.mem_of_getElem? (i := 6) rfl))) (mvT hZ (hw _ (List.mem_of_getElem? (i := 2) rfl))) (mvT hZ (hw _ (List.mem_of_getElem? (i := 7) rfl))) (by decide) (backOf (W := 0) (rm2 l Z a0 hw [] av (0 : Int32) v0 v1 v2 h4 n0 Zs4 ) hZ (hw _ (List.mem_of_getElem? (i := 7) rfl)) (hw _ (List.mem_of_getElem? (i := 2) rfl)) (by decide) (by decide)) (g := (mkF m 96 #[.val (.int xn), .val (.int xa), .val (.int p0), .val (.int p1), .val (.int p2), .val (.int (0 : Int32)), .val (.int av), .val (.int v0), .val (.int v1), .val (.int v2), .val (.ref ca), .unset, .unset, .unset] [(.int v2), (.int v1), (.int v0), (.int (0 : Int32)), (.int av)])) rfl (by rw [hml]; rfl) (argsL := [(.int av), (.int (0 : Int32)), (.int v0), (.int v1), (.int v2)]) (rest := []) (lenOf pd_0_1 rfl) rfl (by show 2 * 0 + _ ≤ _; exact Nat.le_of_eq rfl) (hb hby at_96) (fun _ _ => ⟨rfl, e4, (by decide : 1 + 0 ≤ _), (by decide : 0 + 0 ≤ _)⟩)
    dsimp only [Pt.U, Pt.locs, Pt.cells, Pt.slots] at X5 l5 y5 z5 st5 hQ5
    subst l5 y5 z5
    obtain ⟨rfl, N5q, K5⟩ := hQ5
    have N5 := Fr.app N3 N5q
    refine own_st st5 ?_
    show own_Go p e below _ (T5.setTop (mkF m 99 #[.val (.int xn), .val (.int xa), .val (.int p0), .val (.int p1), .val (.int p2), .val (.int (0 : Int32)), .val (.int av), .val (.int v0), .val (.int v1), .val (.int v2), .val (.ref ca), .unset, .unset, .unset] [(.int (own_drawn av (0 : Int32) v0 v1 v2))]))
    refine own_st (V := T5.setTop (mkF m 101 #[.val (.int xn), .val (.int xa), .val (.int p0), .val (.int p1), .val (.int p2), .val (.int (0 : Int32)), .val (.int av), .val (.int v0), .val (.int v1), .val (.int v2), .val (.ref ca), .val (.int (own_drawn av (0 : Int32) v0 v1 v2)), .unset, .unset] [])) (fun tgt k => ?_) ?_
    · show Steps p.tables e below (T5.setTop (mkF m 99 #[.val (.int xn), .val (.int xa), .val (.int p0), .val (.int p1), .val (.int p2), .val (.int (0 : Int32)), .val (.int av), .val (.int v0), .val (.int v1), .val (.int v2), .val (.ref ca), .unset, .unset, .unset] [(.int (own_drawn av (0 : Int32) v0 v1 v2))])) tgt
      refine XS.istore X5.here hx rfl (hb hby at_99) rfl (l' := #[.val (.int xn), .val (.int xa), .val (.int p0), .val (.int p1), .val (.int p2), .val (.int (0 : Int32)), .val (.int av), .val (.int v0), .val (.int v1), .val (.int v2), .val (.ref ca), .val (.int (own_drawn av (0 : Int32) v0 v1 v2)), .unset, .unset]) rfl ?_
      exact k
    obtain ⟨dw, hdw⟩ : ∃ z : Int32, z = (own_drawn av (0 : Int32) v0 v1 v2) := ⟨_, rfl⟩
    rw [← hdw]
    refine own_st (V := T5.setTop (mkF m 105 #[.val (.int xn), .val (.int xa), .val (.int p0), .val (.int p1), .val (.int p2), .val (.int (0 : Int32)), .val (.int av), .val (.int v0), .val (.int v1), .val (.int v2), .val (.ref ca), .val (.int dw), .unset, .unset] [(.int (43 : Int32)), (.int dw)])) (fun tgt k => ?_) ?_
    · show Steps p.tables e below (T5.setTop (mkF m 101 #[.val (.int xn), .val (.int xa), .val (.int p0), .val (.int p1), .val (.int p2), .val (.int (0 : Int32)), .val (.int av), .val (.int v0), .val (.int v1), .val (.int v2), .val (.ref ca), .val (.int dw), .unset, .unset] [])) tgt
      refine XS.iload X5.here hx rfl (hb hby at_101) rfl ?_
      show Steps p.tables e below (T5.setTop (mkF m 103 #[.val (.int xn), .val (.int xa), .val (.int p0), .val (.int p1), .val (.int p2), .val (.int (0 : Int32)), .val (.int av), .val (.int v0), .val (.int v1), .val (.int v2), .val (.ref ca), .val (.int dw), .unset, .unset] [(.int dw)])) tgt
      refine XS.bipush X5.here hx rfl (hb hby at_103) ?_
      exact k
    obtain ⟨xe, hxe⟩ : ∃ z : Int32, z = (if dw = (43 : Int32) then (av + (1 : Int32)) else (if dw = (45 : Int32) then (av + (1 : Int32)) else av)) := ⟨_, rfl⟩
    refine own_st (V := T5.setTop (mkF m 124 #[.val (.int xn), .val (.int xa), .val (.int p0), .val (.int p1), .val (.int p2), .val (.int (0 : Int32)), .val (.int av), .val (.int v0), .val (.int v1), .val (.int v2), .val (.ref ca), .val (.int dw), .unset, .unset] [(.int xe)])) (fun tgt k => ?_) ?_
    · skip
      by_cases hc105_2 : dw = (43 : Int32)
      · skip
        rw [if_pos hc105_2] at hxe
        show Steps p.tables e below (T5.setTop (mkF m 105 #[.val (.int xn), .val (.int xa), .val (.int p0), .val (.int p1), .val (.int p2), .val (.int (0 : Int32)), .val (.int av), .val (.int v0), .val (.int v1), .val (.int v2), .val (.ref ca), .val (.int dw), .unset, .unset] [(.int (43 : Int32)), (.int dw)])) tgt
        refine XS.icmpYes X5.here hx rfl (pc0 := 105) (pc' := 115) rfl (hb hby at_105) rfl (teq hc105_2).1 (by decide) (by decide) ?_
        show Steps p.tables e below (T5.setTop (mkF m 115 #[.val (.int xn), .val (.int xa), .val (.int p0), .val (.int p1), .val (.int p2), .val (.int (0 : Int32)), .val (.int av), .val (.int v0), .val (.int v1), .val (.int v2), .val (.ref ca), .val (.int dw), .unset, .unset] [])) tgt
        refine XS.iload X5.here hx rfl (hb hby at_115) rfl ?_
        show Steps p.tables e below (T5.setTop (mkF m 117 #[.val (.int xn), .val (.int xa), .val (.int p0), .val (.int p1), .val (.int p2), .val (.int (0 : Int32)), .val (.int av), .val (.int v0), .val (.int v1), .val (.int v2), .val (.ref ca), .val (.int dw), .unset, .unset] [(.int av)])) tgt
        refine XS.iconst X5.here hx rfl (hb hby at_117) ?_
        show Steps p.tables e below (T5.setTop (mkF m 118 #[.val (.int xn), .val (.int xa), .val (.int p0), .val (.int p1), .val (.int p2), .val (.int (0 : Int32)), .val (.int av), .val (.int v0), .val (.int v1), .val (.int v2), .val (.ref ca), .val (.int dw), .unset, .unset] [(.int (1 : Int32)), (.int av)])) tgt
        refine XS.iadd X5.here hx rfl (hb hby at_118) rfl ?_
        show Steps p.tables e below (T5.setTop (mkF m 119 #[.val (.int xn), .val (.int xa), .val (.int p0), .val (.int p1), .val (.int p2), .val (.int (0 : Int32)), .val (.int av), .val (.int v0), .val (.int v1), .val (.int v2), .val (.ref ca), .val (.int dw), .unset, .unset] [(.int (av + (1 : Int32)))])) tgt
        refine XS.goto X5.here hx rfl (pc0 := 119) (pc' := 124) rfl (hb hby at_119) (by decide) (by decide) ?_
        rw [hxe] at k
        exact k
      · skip
        rw [if_neg hc105_2] at hxe
        show Steps p.tables e below (T5.setTop (mkF m 105 #[.val (.int xn), .val (.int xa), .val (.int p0), .val (.int p1), .val (.int p2), .val (.int (0 : Int32)), .val (.int av), .val (.int v0), .val (.int v1), .val (.int v2), .val (.ref ca), .val (.int dw), .unset, .unset] [(.int (43 : Int32)), (.int dw)])) tgt
        refine XS.icmpNo X5.here hx rfl (hb hby at_105) rfl (feq hc105_2).1 ?_
        show Steps p.tables e below (T5.setTop (mkF m 108 #[.val (.int xn), .val (.int xa), .val (.int p0), .val (.int p1), .val (.int p2), .val (.int (0 : Int32)), .val (.int av), .val (.int v0), .val (.int v1), .val (.int v2), .val (.ref ca), .val (.int dw), .unset, .unset] [])) tgt
        refine XS.iload X5.here hx rfl (hb hby at_108) rfl ?_
        show Steps p.tables e below (T5.setTop (mkF m 110 #[.val (.int xn), .val (.int xa), .val (.int p0), .val (.int p1), .val (.int p2), .val (.int (0 : Int32)), .val (.int av), .val (.int v0), .val (.int v1), .val (.int v2), .val (.ref ca), .val (.int dw), .unset, .unset] [(.int dw)])) tgt
        refine XS.bipush X5.here hx rfl (hb hby at_110) ?_
        by_cases hc112 : dw = (45 : Int32)
        · skip
          rw [if_pos hc112] at hxe
          show Steps p.tables e below (T5.setTop (mkF m 112 #[.val (.int xn), .val (.int xa), .val (.int p0), .val (.int p1), .val (.int p2), .val (.int (0 : Int32)), .val (.int av), .val (.int v0), .val (.int v1), .val (.int v2), .val (.ref ca), .val (.int dw), .unset, .unset] [(.int (45 : Int32)), (.int dw)])) tgt
          refine XS.icmpNo X5.here hx rfl (hb hby at_112) rfl (teq hc112).2 ?_
          show Steps p.tables e below (T5.setTop (mkF m 115 #[.val (.int xn), .val (.int xa), .val (.int p0), .val (.int p1), .val (.int p2), .val (.int (0 : Int32)), .val (.int av), .val (.int v0), .val (.int v1), .val (.int v2), .val (.ref ca), .val (.int dw), .unset, .unset] [])) tgt
          refine XS.iload X5.here hx rfl (hb hby at_115) rfl ?_
          show Steps p.tables e below (T5.setTop (mkF m 117 #[.val (.int xn), .val (.int xa), .val (.int p0), .val (.int p1), .val (.int p2), .val (.int (0 : Int32)), .val (.int av), .val (.int v0), .val (.int v1), .val (.int v2), .val (.ref ca), .val (.int dw), .unset, .unset] [(.int av)])) tgt
          refine XS.iconst X5.here hx rfl (hb hby at_117) ?_
          show Steps p.tables e below (T5.setTop (mkF m 118 #[.val (.int xn), .val (.int xa), .val (.int p0), .val (.int p1), .val (.int p2), .val (.int (0 : Int32)), .val (.int av), .val (.int v0), .val (.int v1), .val (.int v2), .val (.ref ca), .val (.int dw), .unset, .unset] [(.int (1 : Int32)), (.int av)])) tgt
          refine XS.iadd X5.here hx rfl (hb hby at_118) rfl ?_
          show Steps p.tables e below (T5.setTop (mkF m 119 #[.val (.int xn), .val (.int xa), .val (.int p0), .val (.int p1), .val (.int p2), .val (.int (0 : Int32)), .val (.int av), .val (.int v0), .val (.int v1), .val (.int v2), .val (.ref ca), .val (.int dw), .unset, .unset] [(.int (av + (1 : Int32)))])) tgt
          refine XS.goto X5.here hx rfl (pc0 := 119) (pc' := 124) rfl (hb hby at_119) (by decide) (by decide) ?_
          rw [hxe] at k
          exact k
        · skip
          rw [if_neg hc112] at hxe
          show Steps p.tables e below (T5.setTop (mkF m 112 #[.val (.int xn), .val (.int xa), .val (.int p0), .val (.int p1), .val (.int p2), .val (.int (0 : Int32)), .val (.int av), .val (.int v0), .val (.int v1), .val (.int v2), .val (.ref ca), .val (.int dw), .unset, .unset] [(.int (45 : Int32)), (.int dw)])) tgt
          refine XS.icmpYes X5.here hx rfl (pc0 := 112) (pc' := 122) rfl (hb hby at_112) rfl (feq hc112).2 (by decide) (by decide) ?_
          show Steps p.tables e below (T5.setTop (mkF m 122 #[.val (.int xn), .val (.int xa), .val (.int p0), .val (.int p1), .val (.int p2), .val (.int (0 : Int32)), .val (.int av), .val (.int v0), .val (.int v1), .val (.int v2), .val (.ref ca), .val (.int dw), .unset, .unset] [])) tgt
          refine XS.iload X5.here hx rfl (hb hby at_122) rfl ?_
          rw [hxe] at k
          exact k
    refine own_st (V := T5.setTop (mkF m 130 #[.val (.int xn), .val (.int xa), .val (.int p0), .val (.int p1), .val (.int p2), .val (.int (0 : Int32)), .val (.int av), .val (.int v0), .val (.int v1), .val (.int v2), .val (.ref ca), .val (.int dw), .val (.int xe), .unset] [(.int av), (.ref ca)])) (fun tgt k => ?_) ?_
    · show Steps p.tables e below (T5.setTop (mkF m 124 #[.val (.int xn), .val (.int xa), .val (.int p0), .val (.int p1), .val (.int p2), .val (.int (0 : Int32)), .val (.int av), .val (.int v0), .val (.int v1), .val (.int v2), .val (.ref ca), .val (.int dw), .unset, .unset] [(.int xe)])) tgt
      refine XS.istore X5.here hx rfl (hb hby at_124) rfl (l' := #[.val (.int xn), .val (.int xa), .val (.int p0), .val (.int p1), .val (.int p2), .val (.int (0 : Int32)), .val (.int av), .val (.int v0), .val (.int v1), .val (.int v2), .val (.ref ca), .val (.int dw), .val (.int xe), .unset]) rfl ?_
      show Steps p.tables e below (T5.setTop (mkF m 126 #[.val (.int xn), .val (.int xa), .val (.int p0), .val (.int p1), .val (.int p2), .val (.int (0 : Int32)), .val (.int av), .val (.int v0), .val (.int v1), .val (.int v2), .val (.ref ca), .val (.int dw), .val (.int xe), .unset] [])) tgt
      refine XS.aload X5.here hx rfl (hb hby at_126) rfl rfl ?_
      show Steps p.tables e below (T5.setTop (mkF m 128 #[.val (.int xn), .val (.int xa), .val (.int p0), .val (.int p1), .val (.int p2), .val (.int (0 : Int32)), .val (.int av), .val (.int v0), .val (.int v1), .val (.int v2), .val (.ref ca), .val (.int dw), .val (.int xe), .unset] [(.ref ca)])) tgt
      refine XS.iload X5.here hx rfl (hb hby at_128) rfl ?_
      exact k
    obtain ⟨_, _, ⟨T6, L6, k6, n6⟩, -, X6, ⟨Lc6, hQ6, l6, y6, z6⟩, st6⟩ := Jvm.LawKit.callS X5 hx (y := (⟨"com/example/tidewatch/tidewatch/io/Decimal", "skipSign", "([BI)I"⟩ : MethodName)) hown (mvT hZ (hw _ (List.mem_of_getElem? (i := 8) rfl))) (mvT hZ (hw _ (List.mem_of_getElem? (i := 9) rfl))) (mvT hZ (hw _ (List.mem_of_getElem? (i := 10) rfl))) (mvT hZ (hw _ (List.mem_of_getElem? (i := 11) rfl))) (by decide) (backOf (W := 0) (rm3 l Z a0 hw [] ca av (0 : Int32) 0 (fun _ => 0) h4 n0 Zs4 A_ca_4 (by decide) hav0) hZ (hw _ (List.mem_of_getElem? (i := 11) rfl)) (hw _ (List.mem_of_getElem? (i := 10) rfl)) (by decide) (by decide)) (g := (mkF m 130 #[.val (.int xn), .val (.int xa), .val (.int p0), .val (.int p1), .val (.int p2), .val (.int (0 : Int32)), .val (.int av), .val (.int v0), .val (.int v1), .val (.int v2), .val (.ref ca), .val (.int dw), .val (.int xe), .unset] [(.int av), (.ref ca)])) rfl (by rw [hml]; rfl) (argsL := [(.ref ca), (.int av)]) (rest := []) (lenOf pd_0_2 rfl) rfl (by show 2 * 0 + _ ≤ _; exact Nat.le_of_eq rfl) (hb hby at_130) (fun _ _ => ⟨rfl, K5, (by decide : 1 + 0 ≤ _), (by decide : 0 + 0 ≤ _)⟩)
    dsimp only [Pt.U, Pt.locs, Pt.cells, Pt.slots] at X6 l6 y6 z6 st6 hQ6
    subst l6 y6 z6
    obtain ⟨rfl, N6q, K6⟩ := hQ6
    have N6 := Fr.app N5 N6q
    refine own_st st6 ?_
    show own_Go p e below _ (T6.setTop (mkF m 133 #[.val (.int xn), .val (.int xa), .val (.int p0), .val (.int p1), .val (.int p2), .val (.int (0 : Int32)), .val (.int av), .val (.int v0), .val (.int v1), .val (.int v2), .val (.ref ca), .val (.int dw), .val (.int xe), .unset] [(.int (own_skip (fun _ => 0) av (0 : Int32)))]))
    refine own_st (V := T6.setTop (mkF m 147 #[.val (.int xn), .val (.int xa), .val (.int p0), .val (.int p1), .val (.int p2), .val (.int (0 : Int32)), .val (.int av), .val (.int v0), .val (.int v1), .val (.int v2), .val (.ref ca), .val (.int dw), .val (.int xe), .val (.int (own_skip (fun _ => 0) av (0 : Int32)))] [(.int (1 : Int32))])) (fun tgt k => ?_) ?_
    · show Steps p.tables e below (T6.setTop (mkF m 133 #[.val (.int xn), .val (.int xa), .val (.int p0), .val (.int p1), .val (.int p2), .val (.int (0 : Int32)), .val (.int av), .val (.int v0), .val (.int v1), .val (.int v2), .val (.ref ca), .val (.int dw), .val (.int xe), .unset] [(.int (own_skip (fun _ => 0) av (0 : Int32)))])) tgt
      refine XS.istore X6.here hx rfl (hb hby at_133) rfl (l' := #[.val (.int xn), .val (.int xa), .val (.int p0), .val (.int p1), .val (.int p2), .val (.int (0 : Int32)), .val (.int av), .val (.int v0), .val (.int v1), .val (.int v2), .val (.ref ca), .val (.int dw), .val (.int xe), .val (.int (own_skip (fun _ => 0) av (0 : Int32)))]) rfl ?_
      show Steps p.tables e below (T6.setTop (mkF m 135 #[.val (.int xn), .val (.int xa), .val (.int p0), .val (.int p1), .val (.int p2), .val (.int (0 : Int32)), .val (.int av), .val (.int v0), .val (.int v1), .val (.int v2), .val (.ref ca), .val (.int dw), .val (.int xe), .val (.int (own_skip (fun _ => 0) av (0 : Int32)))] [])) tgt
      refine XS.iload X6.here hx rfl (hb hby at_135) rfl ?_
      show Steps p.tables e below (T6.setTop (mkF m 137 #[.val (.int xn), .val (.int xa), .val (.int p0), .val (.int p1), .val (.int p2), .val (.int (0 : Int32)), .val (.int av), .val (.int v0), .val (.int v1), .val (.int v2), .val (.ref ca), .val (.int dw), .val (.int xe), .val (.int (own_skip (fun _ => 0) av (0 : Int32)))] [(.int (own_skip (fun _ => 0) av (0 : Int32)))])) tgt
      refine XS.iload X6.here hx rfl (hb hby at_137) rfl ?_
      show Steps p.tables e below (T6.setTop (mkF m 139 #[.val (.int xn), .val (.int xa), .val (.int p0), .val (.int p1), .val (.int p2), .val (.int (0 : Int32)), .val (.int av), .val (.int v0), .val (.int v1), .val (.int v2), .val (.ref ca), .val (.int dw), .val (.int xe), .val (.int (own_skip (fun _ => 0) av (0 : Int32)))] [(.int xe), (.int (own_skip (fun _ => 0) av (0 : Int32)))])) tgt
      refine XS.icmpNo X6.here hx rfl (hb hby at_139) rfl (teq (by rw [hxe, hdw]; exact own_fin _ _ _ _ _ _ hav0 (by decide) (by first | exact fun _ => rfl | exact fun h => absurd h (by decide)) (by first | exact fun _ => rfl | exact fun h => absurd h (by decide)) (by first | exact fun _ => rfl | exact fun h => absurd h (by decide)))).2 ?_
      show Steps p.tables e below (T6.setTop (mkF m 142 #[.val (.int xn), .val (.int xa), .val (.int p0), .val (.int p1), .val (.int p2), .val (.int (0 : Int32)), .val (.int av), .val (.int v0), .val (.int v1), .val (.int v2), .val (.ref ca), .val (.int dw), .val (.int xe), .val (.int (own_skip (fun _ => 0) av (0 : Int32)))] [])) tgt
      refine XS.iconst X6.here hx rfl (hb hby at_142) ?_
      show Steps p.tables e below (T6.setTop (mkF m 143 #[.val (.int xn), .val (.int xa), .val (.int p0), .val (.int p1), .val (.int p2), .val (.int (0 : Int32)), .val (.int av), .val (.int v0), .val (.int v1), .val (.int v2), .val (.ref ca), .val (.int dw), .val (.int xe), .val (.int (own_skip (fun _ => 0) av (0 : Int32)))] [(.int (1 : Int32))])) tgt
      refine XS.goto X6.here hx rfl (pc0 := 143) (pc' := 147) rfl (hb hby at_143) (by decide) (by decide) ?_
      exact k
    refine own_retN X6 hx hlk (t := .boolean) (z' := (1 : Int32)) Bd.returns (by simp) rfl (hb hby at_147) ?_ (by decide) (by decide)
    show Q0 Z xn xa p0 p1 p2 h0 n0 (some (.int (1 : Int32))) T6.heap _
    rw [K6]
    exact ⟨rfl, N6⟩
  · skip
    rw [show (xn &&& (3 : Int32)) = (1 : Int32) from q]
    refine own_st (V := s₁.setTop (mkF m 8 #[.val (.int xn), .val (.int xa), .val (.int p0), .val (.int p1), .val (.int p2), .val (.int (1 : Int32)), .unset, .unset, .unset, .unset, .unset, .unset, .unset, .unset] [(.int (xn &&& (4 : Int32)))])) (fun tgt k => ?_) ?_
    · show Steps p.tables e below (s₁.setTop (mkF m 5 #[.val (.int xn), .val (.int xa), .val (.int p0), .val (.int p1), .val (.int p2), .val (.int (1 : Int32)), .unset, .unset, .unset, .unset, .unset, .unset, .unset, .unset] [])) tgt
      refine XS.iloadN X0.here hx rfl (hb hby at_5) rfl ?_
      show Steps p.tables e below (s₁.setTop (mkF m 6 #[.val (.int xn), .val (.int xa), .val (.int p0), .val (.int p1), .val (.int p2), .val (.int (1 : Int32)), .unset, .unset, .unset, .unset, .unset, .unset, .unset, .unset] [(.int xn)])) tgt
      refine XS.iconst X0.here hx rfl (hb hby at_6) ?_
      show Steps p.tables e below (s₁.setTop (mkF m 7 #[.val (.int xn), .val (.int xa), .val (.int p0), .val (.int p1), .val (.int p2), .val (.int (1 : Int32)), .unset, .unset, .unset, .unset, .unset, .unset, .unset, .unset] [(.int (4 : Int32)), (.int xn)])) tgt
      refine XS.iand X0.here hx rfl (hb hby at_7) rfl ?_
      exact k
    obtain ⟨av, hav⟩ : ∃ z : Int32, z = (if (xn &&& (4 : Int32)) = (0 : Int32) then (xa &&& (3 : Int32)) else (xa &&& (2147483647 : Int32))) := ⟨_, rfl⟩
    refine own_st (V := s₁.setTop (mkF m 21 #[.val (.int xn), .val (.int xa), .val (.int p0), .val (.int p1), .val (.int p2), .val (.int (1 : Int32)), .unset, .unset, .unset, .unset, .unset, .unset, .unset, .unset] [(.int av)])) (fun tgt k => ?_) ?_
    · skip
      by_cases hc8_2 : (xn &&& (4 : Int32)) = (0 : Int32)
      · skip
        rw [if_pos hc8_2] at hav
        show Steps p.tables e below (s₁.setTop (mkF m 8 #[.val (.int xn), .val (.int xa), .val (.int p0), .val (.int p1), .val (.int p2), .val (.int (1 : Int32)), .unset, .unset, .unset, .unset, .unset, .unset, .unset, .unset] [(.int (xn &&& (4 : Int32)))])) tgt
        refine XS.ifYes X0.here hx rfl (pc0 := 8) (pc' := 18) rfl (hb hby at_8) rfl ((if0 _ _).trans (teq hc8_2).1) (by decide) (by decide) ?_
        show Steps p.tables e below (s₁.setTop (mkF m 18 #[.val (.int xn), .val (.int xa), .val (.int p0), .val (.int p1), .val (.int p2), .val (.int (1 : Int32)), .unset, .unset, .unset, .unset, .unset, .unset, .unset, .unset] [])) tgt
        refine XS.iloadN X0.here hx rfl (hb hby at_18) rfl ?_
        show Steps p.tables e below (s₁.setTop (mkF m 19 #[.val (.int xn), .val (.int xa), .val (.int p0), .val (.int p1), .val (.int p2), .val (.int (1 : Int32)), .unset, .unset, .unset, .unset, .unset, .unset, .unset, .unset] [(.int xa)])) tgt
        refine XS.iconst X0.here hx rfl (hb hby at_19) ?_
        show Steps p.tables e below (s₁.setTop (mkF m 20 #[.val (.int xn), .val (.int xa), .val (.int p0), .val (.int p1), .val (.int p2), .val (.int (1 : Int32)), .unset, .unset, .unset, .unset, .unset, .unset, .unset, .unset] [(.int (3 : Int32)), (.int xa)])) tgt
        refine XS.iand X0.here hx rfl (hb hby at_20) rfl ?_
        rw [hav] at k
        exact k
      · skip
        rw [if_neg hc8_2] at hav
        show Steps p.tables e below (s₁.setTop (mkF m 8 #[.val (.int xn), .val (.int xa), .val (.int p0), .val (.int p1), .val (.int p2), .val (.int (1 : Int32)), .unset, .unset, .unset, .unset, .unset, .unset, .unset, .unset] [(.int (xn &&& (4 : Int32)))])) tgt
        refine XS.ifNo X0.here hx rfl (hb hby at_8) rfl ((if0 _ _).trans (feq hc8_2).1) ?_
        show Steps p.tables e below (s₁.setTop (mkF m 11 #[.val (.int xn), .val (.int xa), .val (.int p0), .val (.int p1), .val (.int p2), .val (.int (1 : Int32)), .unset, .unset, .unset, .unset, .unset, .unset, .unset, .unset] [])) tgt
        refine XS.iloadN X0.here hx rfl (hb hby at_11) rfl ?_
        show Steps p.tables e below (s₁.setTop (mkF m 12 #[.val (.int xn), .val (.int xa), .val (.int p0), .val (.int p1), .val (.int p2), .val (.int (1 : Int32)), .unset, .unset, .unset, .unset, .unset, .unset, .unset, .unset] [(.int xa)])) tgt
        refine X0.ldcInt hx hown (mvT hZ (hw _ (List.mem_of_getElem? (i := 12) rfl))) (g := (mkF m 12 #[.val (.int xn), .val (.int xa), .val (.int p0), .val (.int p1), .val (.int p2), .val (.int (1 : Int32)), .unset, .unset, .unset, .unset, .unset, .unset, .unset, .unset] [(.int xa)])) rfl (hb hby at_12) _ ?_
        show Steps p.tables e below (s₁.setTop (mkF m 14 #[.val (.int xn), .val (.int xa), .val (.int p0), .val (.int p1), .val (.int p2), .val (.int (1 : Int32)), .unset, .unset, .unset, .unset, .unset, .unset, .unset, .unset] [(.int (2147483647 : Int32)), (.int xa)])) tgt
        refine XS.iand X0.here hx rfl (hb hby at_14) rfl ?_
        show Steps p.tables e below (s₁.setTop (mkF m 15 #[.val (.int xn), .val (.int xa), .val (.int p0), .val (.int p1), .val (.int p2), .val (.int (1 : Int32)), .unset, .unset, .unset, .unset, .unset, .unset, .unset, .unset] [(.int (xa &&& (2147483647 : Int32)))])) tgt
        refine XS.goto X0.here hx rfl (pc0 := 15) (pc' := 21) rfl (hb hby at_15) (by decide) (by decide) ?_
        rw [hav] at k
        exact k
    have hav0 : 0 ≤ av.toInt := by
      rw [hav]; split
      · exact (c_and xa 3 (by decide)).1
      · exact (c_and xa 2147483647 (by decide)).1
    refine own_st (V := s₁.setTop (mkF m 24 #[.val (.int xn), .val (.int xa), .val (.int p0), .val (.int p1), .val (.int p2), .val (.int (1 : Int32)), .val (.int av), .unset, .unset, .unset, .unset, .unset, .unset, .unset] [(.int p0)])) (fun tgt k => ?_) ?_
    · show Steps p.tables e below (s₁.setTop (mkF m 21 #[.val (.int xn), .val (.int xa), .val (.int p0), .val (.int p1), .val (.int p2), .val (.int (1 : Int32)), .unset, .unset, .unset, .unset, .unset, .unset, .unset, .unset] [(.int av)])) tgt
      refine XS.istore X0.here hx rfl (hb hby at_21) rfl (l' := #[.val (.int xn), .val (.int xa), .val (.int p0), .val (.int p1), .val (.int p2), .val (.int (1 : Int32)), .val (.int av), .unset, .unset, .unset, .unset, .unset, .unset, .unset]) rfl ?_
      show Steps p.tables e below (s₁.setTop (mkF m 23 #[.val (.int xn), .val (.int xa), .val (.int p0), .val (.int p1), .val (.int p2), .val (.int (1 : Int32)), .val (.int av), .unset, .unset, .unset, .unset, .unset, .unset, .unset] [])) tgt
      refine XS.iloadN X0.here hx rfl (hb hby at_23) rfl ?_
      exact k
    obtain ⟨_, _, ⟨T8, L8, k8, n8⟩, -, X8, ⟨Lc8, hQ8, l8, y8, z8⟩, st8⟩ := Jvm.LawKit.callS X0 hx (y := (⟨"com/example/tidewatch/tidewatch/io/DecimalSkipSignPinLaw", "pick", "(I)I"⟩ : MethodName)) hown (mvT hZ (hw _ (List.mem_of_getElem? (i := 0) rfl))) (mvT hZ (hw _ (List.mem_of_getElem? (i := 1) rfl))) (mvT hZ (hw _ (List.mem_of_getElem? (i := 2) rfl))) (mvT hZ (hw _ (List.mem_of_getElem? (i := 3) rfl))) (by decide) (backOf (W := 0) (rm1 l Z a0 hw [] p0 h0 n0 Z0 ) hZ (hw _ (List.mem_of_getElem? (i := 3) rfl)) (hw _ (List.mem_of_getElem? (i := 2) rfl)) (by decide) (by decide)) (g := (mkF m 24 #[.val (.int xn), .val (.int xa), .val (.int p0), .val (.int p1), .val (.int p2), .val (.int (1 : Int32)), .val (.int av), .unset, .unset, .unset, .unset, .unset, .unset, .unset] [(.int p0)])) rfl (by rw [hml]; rfl) (argsL := [(.int p0)]) (rest := []) (lenOf pd_0_0 rfl) rfl (by show 2 * 0 + _ ≤ _; exact Nat.le_of_eq rfl) (hb hby at_24) (fun _ _ => ⟨rfl, e0, (by decide : 0 + 0 ≤ _), (by decide : 0 + 0 ≤ _)⟩)
    dsimp only [Pt.U, Pt.locs, Pt.cells, Pt.slots] at X8 l8 y8 z8 st8 hQ8
    subst l8 y8 z8
    obtain ⟨rfl, N8q, K8⟩ := hQ8
    have N8 := Fr.app N0 N8q
    refine own_st st8 ?_
    show own_Go p e below _ (T8.setTop (mkF m 27 #[.val (.int xn), .val (.int xa), .val (.int p0), .val (.int p1), .val (.int p2), .val (.int (1 : Int32)), .val (.int av), .unset, .unset, .unset, .unset, .unset, .unset, .unset] [(.int (own_pick p0))]))
    refine own_st (V := T8.setTop (mkF m 29 #[.val (.int xn), .val (.int xa), .val (.int p0), .val (.int p1), .val (.int p2), .val (.int (1 : Int32)), .val (.int av), .val (.int (own_pick p0)), .unset, .unset, .unset, .unset, .unset, .unset] [])) (fun tgt k => ?_) ?_
    · show Steps p.tables e below (T8.setTop (mkF m 27 #[.val (.int xn), .val (.int xa), .val (.int p0), .val (.int p1), .val (.int p2), .val (.int (1 : Int32)), .val (.int av), .unset, .unset, .unset, .unset, .unset, .unset, .unset] [(.int (own_pick p0))])) tgt
      refine XS.istore X8.here hx rfl (hb hby at_27) rfl (l' := #[.val (.int xn), .val (.int xa), .val (.int p0), .val (.int p1), .val (.int p2), .val (.int (1 : Int32)), .val (.int av), .val (.int (own_pick p0)), .unset, .unset, .unset, .unset, .unset, .unset]) rfl ?_
      exact k
    obtain ⟨v0, hv0⟩ : ∃ z : Int32, z = (own_pick p0) := ⟨_, rfl⟩
    rw [← hv0]
    have v0b : v0.toInt8.toInt32 = v0 := by rw [hv0]; exact own_pick8 p0
    refine own_st (V := T8.setTop (mkF m 30 #[.val (.int xn), .val (.int xa), .val (.int p0), .val (.int p1), .val (.int p2), .val (.int (1 : Int32)), .val (.int av), .val (.int v0), .unset, .unset, .unset, .unset, .unset, .unset] [(.int p1)])) (fun tgt k => ?_) ?_
    · show Steps p.tables e below (T8.setTop (mkF m 29 #[.val (.int xn), .val (.int xa), .val (.int p0), .val (.int p1), .val (.int p2), .val (.int (1 : Int32)), .val (.int av), .val (.int v0), .unset, .unset, .unset, .unset, .unset, .unset] [])) tgt
      refine XS.iloadN X8.here hx rfl (hb hby at_29) rfl ?_
      exact k
    obtain ⟨_, _, ⟨T9, L9, k9, n9⟩, -, X9, ⟨Lc9, hQ9, l9, y9, z9⟩, st9⟩ := Jvm.LawKit.callS X8 hx (y := (⟨"com/example/tidewatch/tidewatch/io/DecimalSkipSignPinLaw", "pick", "(I)I"⟩ : MethodName)) hown (mvT hZ (hw _ (List.mem_of_getElem? (i := 0) rfl))) (mvT hZ (hw _ (List.mem_of_getElem? (i := 1) rfl))) (mvT hZ (hw _ (List.mem_of_getElem? (i := 2) rfl))) (mvT hZ (hw _ (List.mem_of_getElem? (i := 3) rfl))) (by decide) (backOf (W := 0) (rm1 l Z a0 hw [] p1 h0 n0 Z0 ) hZ (hw _ (List.mem_of_getElem? (i := 3) rfl)) (hw _ (List.mem_of_getElem? (i := 2) rfl)) (by decide) (by decide)) (g := (mkF m 30 #[.val (.int xn), .val (.int xa), .val (.int p0), .val (.int p1), .val (.int p2), .val (.int (1 : Int32)), .val (.int av), .val (.int v0), .unset, .unset, .unset, .unset, .unset, .unset] [(.int p1)])) rfl (by rw [hml]; rfl) (argsL := [(.int p1)]) (rest := []) (lenOf pd_0_0 rfl) rfl (by show 2 * 0 + _ ≤ _; exact Nat.le_of_eq rfl) (hb hby at_30) (fun _ _ => ⟨rfl, K8, (by decide : 0 + 0 ≤ _), (by decide : 0 + 0 ≤ _)⟩)
    dsimp only [Pt.U, Pt.locs, Pt.cells, Pt.slots] at X9 l9 y9 z9 st9 hQ9
    subst l9 y9 z9
    obtain ⟨rfl, N9q, K9⟩ := hQ9
    have N9 := Fr.app N8 N9q
    refine own_st st9 ?_
    show own_Go p e below _ (T9.setTop (mkF m 33 #[.val (.int xn), .val (.int xa), .val (.int p0), .val (.int p1), .val (.int p2), .val (.int (1 : Int32)), .val (.int av), .val (.int v0), .unset, .unset, .unset, .unset, .unset, .unset] [(.int (own_pick p1))]))
    refine own_st (V := T9.setTop (mkF m 35 #[.val (.int xn), .val (.int xa), .val (.int p0), .val (.int p1), .val (.int p2), .val (.int (1 : Int32)), .val (.int av), .val (.int v0), .val (.int (own_pick p1)), .unset, .unset, .unset, .unset, .unset] [])) (fun tgt k => ?_) ?_
    · show Steps p.tables e below (T9.setTop (mkF m 33 #[.val (.int xn), .val (.int xa), .val (.int p0), .val (.int p1), .val (.int p2), .val (.int (1 : Int32)), .val (.int av), .val (.int v0), .unset, .unset, .unset, .unset, .unset, .unset] [(.int (own_pick p1))])) tgt
      refine XS.istore X9.here hx rfl (hb hby at_33) rfl (l' := #[.val (.int xn), .val (.int xa), .val (.int p0), .val (.int p1), .val (.int p2), .val (.int (1 : Int32)), .val (.int av), .val (.int v0), .val (.int (own_pick p1)), .unset, .unset, .unset, .unset, .unset]) rfl ?_
      exact k
    obtain ⟨v1, hv1⟩ : ∃ z : Int32, z = (own_pick p1) := ⟨_, rfl⟩
    rw [← hv1]
    have v1b : v1.toInt8.toInt32 = v1 := by rw [hv1]; exact own_pick8 p1
    refine own_st (V := T9.setTop (mkF m 37 #[.val (.int xn), .val (.int xa), .val (.int p0), .val (.int p1), .val (.int p2), .val (.int (1 : Int32)), .val (.int av), .val (.int v0), .val (.int v1), .unset, .unset, .unset, .unset, .unset] [(.int p2)])) (fun tgt k => ?_) ?_
    · show Steps p.tables e below (T9.setTop (mkF m 35 #[.val (.int xn), .val (.int xa), .val (.int p0), .val (.int p1), .val (.int p2), .val (.int (1 : Int32)), .val (.int av), .val (.int v0), .val (.int v1), .unset, .unset, .unset, .unset, .unset] [])) tgt
      refine XS.iload X9.here hx rfl (hb hby at_35) rfl ?_
      exact k
    obtain ⟨_, _, ⟨T10, L10, k10, n10⟩, -, X10, ⟨Lc10, hQ10, l10, y10, z10⟩, st10⟩ := Jvm.LawKit.callS X9 hx (y := (⟨"com/example/tidewatch/tidewatch/io/DecimalSkipSignPinLaw", "pick", "(I)I"⟩ : MethodName)) hown (mvT hZ (hw _ (List.mem_of_getElem? (i := 0) rfl))) (mvT hZ (hw _ (List.mem_of_getElem? (i := 1) rfl))) (mvT hZ (hw _ (List.mem_of_getElem? (i := 2) rfl))) (mvT hZ (hw _ (List.mem_of_getElem? (i := 3) rfl))) (by decide) (backOf (W := 0) (rm1 l Z a0 hw [] p2 h0 n0 Z0 ) hZ (hw _ (List.mem_of_getElem? (i := 3) rfl)) (hw _ (List.mem_of_getElem? (i := 2) rfl)) (by decide) (by decide)) (g := (mkF m 37 #[.val (.int xn), .val (.int xa), .val (.int p0), .val (.int p1), .val (.int p2), .val (.int (1 : Int32)), .val (.int av), .val (.int v0), .val (.int v1), .unset, .unset, .unset, .unset, .unset] [(.int p2)])) rfl (by rw [hml]; rfl) (argsL := [(.int p2)]) (rest := []) (lenOf pd_0_0 rfl) rfl (by show 2 * 0 + _ ≤ _; exact Nat.le_of_eq rfl) (hb hby at_37) (fun _ _ => ⟨rfl, K9, (by decide : 0 + 0 ≤ _), (by decide : 0 + 0 ≤ _)⟩)
    dsimp only [Pt.U, Pt.locs, Pt.cells, Pt.slots] at X10 l10 y10 z10 st10 hQ10
    subst l10 y10 z10
    obtain ⟨rfl, N10q, K10⟩ := hQ10
    have N10 := Fr.app N9 N10q
    refine own_st st10 ?_
    show own_Go p e below _ (T10.setTop (mkF m 40 #[.val (.int xn), .val (.int xa), .val (.int p0), .val (.int p1), .val (.int p2), .val (.int (1 : Int32)), .val (.int av), .val (.int v0), .val (.int v1), .unset, .unset, .unset, .unset, .unset] [(.int (own_pick p2))]))
    refine own_st (V := T10.setTop (mkF m 42 #[.val (.int xn), .val (.int xa), .val (.int p0), .val (.int p1), .val (.int p2), .val (.int (1 : Int32)), .val (.int av), .val (.int v0), .val (.int v1), .val (.int (own_pick p2)), .unset, .unset, .unset, .unset] [])) (fun tgt k => ?_) ?_
    · show Steps p.tables e below (T10.setTop (mkF m 40 #[.val (.int xn), .val (.int xa), .val (.int p0), .val (.int p1), .val (.int p2), .val (.int (1 : Int32)), .val (.int av), .val (.int v0), .val (.int v1), .unset, .unset, .unset, .unset, .unset] [(.int (own_pick p2))])) tgt
      refine XS.istore X10.here hx rfl (hb hby at_40) rfl (l' := #[.val (.int xn), .val (.int xa), .val (.int p0), .val (.int p1), .val (.int p2), .val (.int (1 : Int32)), .val (.int av), .val (.int v0), .val (.int v1), .val (.int (own_pick p2)), .unset, .unset, .unset, .unset]) rfl ?_
      exact k
    obtain ⟨v2, hv2⟩ : ∃ z : Int32, z = (own_pick p2) := ⟨_, rfl⟩
    rw [← hv2]
    have v2b : v2.toInt8.toInt32 = v2 := by rw [hv2]; exact own_pick8 p2
    refine own_st (V := T10.setTop (mkF m 44 #[.val (.int xn), .val (.int xa), .val (.int p0), .val (.int p1), .val (.int p2), .val (.int (1 : Int32)), .val (.int av), .val (.int v0), .val (.int v1), .val (.int v2), .unset, .unset, .unset, .unset] [(.int (1 : Int32))])) (fun tgt k => ?_) ?_
    · show Steps p.tables e below (T10.setTop (mkF m 42 #[.val (.int xn), .val (.int xa), .val (.int p0), .val (.int p1), .val (.int p2), .val (.int (1 : Int32)), .val (.int av), .val (.int v0), .val (.int v1), .val (.int v2), .unset, .unset, .unset, .unset] [])) tgt
      refine XS.iload X10.here hx rfl (hb hby at_42) rfl ?_
      exact k
    obtain ⟨T11, h11, c11, X11, e11, E11, A11, st11⟩ := own_newarr X10 hx hZ (hw _ (List.mem_of_getElem? (i := 4) rfl)) K10 (g := (mkF m 44 #[.val (.int xn), .val (.int xa), .val (.int p0), .val (.int p1), .val (.int p2), .val (.int (1 : Int32)), .val (.int av), .val (.int v0), .val (.int v1), .val (.int v2), .unset, .unset, .unset, .unset] [(.int (1 : Int32))])) rfl (hb hby at_44) rfl (k := 1) rfl (cap := 1) (by decide) (by decide) (by decide) (by decide)
    obtain ⟨ca, g11⟩ : ∃ z, z = h0.size := ⟨_, rfl⟩
    rw [← g11] at A11 st11
    have g_ca : n0 ≤ ca := Nat.le_trans Z0 (Nat.le_of_eq g11.symm)
    have A_ca_11 : own_Ai Z h11 ca .byte 1 (fun _ => 0) := own_Ai.new A11
    have Zs11 : n0 ≤ h11.size := Nat.le_trans Z0 E11.1
    refine own_st st11 ?_
    show own_Go p e below _ (T11.setTop (mkF m 46 #[.val (.int xn), .val (.int xa), .val (.int p0), .val (.int p1), .val (.int p2), .val (.int (1 : Int32)), .val (.int av), .val (.int v0), .val (.int v1), .val (.int v2), .unset, .unset, .unset, .unset] [(.ref ca)]))
    refine own_st (V := T11.setTop (mkF m 59 #[.val (.int xn), .val (.int xa), .val (.int p0), .val (.int p1), .val (.int p2), .val (.int (1 : Int32)), .val (.int av), .val (.int v0), .val (.int v1), .val (.int v2), .val (.ref ca), .unset, .unset, .unset] [(.int (v0.toInt8.toInt32)), (.int (0 : Int32)), (.ref ca)])) (fun tgt k => ?_) ?_
    · show Steps p.tables e below (T11.setTop (mkF m 46 #[.val (.int xn), .val (.int xa), .val (.int p0), .val (.int p1), .val (.int p2), .val (.int (1 : Int32)), .val (.int av), .val (.int v0), .val (.int v1), .val (.int v2), .unset, .unset, .unset, .unset] [(.ref ca)])) tgt
      refine XS.astore X11.here hx rfl (hb hby at_46) rfl rfl (l' := #[.val (.int xn), .val (.int xa), .val (.int p0), .val (.int p1), .val (.int p2), .val (.int (1 : Int32)), .val (.int av), .val (.int v0), .val (.int v1), .val (.int v2), .val (.ref ca), .unset, .unset, .unset]) rfl ?_
      show Steps p.tables e below (T11.setTop (mkF m 48 #[.val (.int xn), .val (.int xa), .val (.int p0), .val (.int p1), .val (.int p2), .val (.int (1 : Int32)), .val (.int av), .val (.int v0), .val (.int v1), .val (.int v2), .val (.ref ca), .unset, .unset, .unset] [])) tgt
      refine XS.iload X11.here hx rfl (hb hby at_48) rfl ?_
      show Steps p.tables e below (T11.setTop (mkF m 50 #[.val (.int xn), .val (.int xa), .val (.int p0), .val (.int p1), .val (.int p2), .val (.int (1 : Int32)), .val (.int av), .val (.int v0), .val (.int v1), .val (.int v2), .val (.ref ca), .unset, .unset, .unset] [(.int (1 : Int32))])) tgt
      refine XS.ifNo X11.here hx rfl (hb hby at_50) rfl ((if0 _ _).trans (tlt (by decide : (0 : Int32) < (1 : Int32))).2.2.2) ?_
      show Steps p.tables e below (T11.setTop (mkF m 53 #[.val (.int xn), .val (.int xa), .val (.int p0), .val (.int p1), .val (.int p2), .val (.int (1 : Int32)), .val (.int av), .val (.int v0), .val (.int v1), .val (.int v2), .val (.ref ca), .unset, .unset, .unset] [])) tgt
      refine XS.aload X11.here hx rfl (hb hby at_53) rfl rfl ?_
      show Steps p.tables e below (T11.setTop (mkF m 55 #[.val (.int xn), .val (.int xa), .val (.int p0), .val (.int p1), .val (.int p2), .val (.int (1 : Int32)), .val (.int av), .val (.int v0), .val (.int v1), .val (.int v2), .val (.ref ca), .unset, .unset, .unset] [(.ref ca)])) tgt
      refine XS.iconst X11.here hx rfl (hb hby at_55) ?_
      show Steps p.tables e below (T11.setTop (mkF m 56 #[.val (.int xn), .val (.int xa), .val (.int p0), .val (.int p1), .val (.int p2), .val (.int (1 : Int32)), .val (.int av), .val (.int v0), .val (.int v1), .val (.int v2), .val (.ref ca), .unset, .unset, .unset] [(.int (0 : Int32)), (.ref ca)])) tgt
      refine XS.iload X11.here hx rfl (hb hby at_56) rfl ?_
      show Steps p.tables e below (T11.setTop (mkF m 58 #[.val (.int xn), .val (.int xa), .val (.int p0), .val (.int p1), .val (.int p2), .val (.int (1 : Int32)), .val (.int av), .val (.int v0), .val (.int v1), .val (.int v2), .val (.ref ca), .unset, .unset, .unset] [(.int v0), (.int (0 : Int32)), (.ref ca)])) tgt
      refine XS.i2b X11.here hx rfl (hb hby at_58) rfl ?_
      exact k
    obtain ⟨T12, h12, X12, e12, W12, A_ca_12, st12⟩ := own_bastore X11 hx hZ e11 A_ca_11 (j := (0 : Int32)) (k := 0) rfl (by decide) (g := (mkF m 59 #[.val (.int xn), .val (.int xa), .val (.int p0), .val (.int p1), .val (.int p2), .val (.int (1 : Int32)), .val (.int av), .val (.int v0), .val (.int v1), .val (.int v2), .val (.ref ca), .unset, .unset, .unset] [(.int (v0.toInt8.toInt32)), (.int (0 : Int32)), (.ref ca)])) rfl rfl (hb hby at_59)
    have N12 := Fr.snoc X12 N10 g_ca
    have Zs12 : n0 ≤ h12.size := Nat.le_trans Zs11 (Keep.of_wr W12).1
    refine own_st st12 ?_
    show own_Go p e below _ (T12.setTop (mkF m 60 #[.val (.int xn), .val (.int xa), .val (.int p0), .val (.int p1), .val (.int p2), .val (.int (1 : Int32)), .val (.int av), .val (.int v0), .val (.int v1), .val (.int v2), .val (.ref ca), .unset, .unset, .unset] []))
    have Af_ca_13 := A_ca_12
    rw [show (own_up (fun _ => 0) 0 (v0.toInt8.toInt32).toInt8.toInt32) = (own_up (fun _ => 0) 0 v0) from by rw [v0b, v0b]] at Af_ca_13
    refine own_st (V := T12.setTop (mkF m 96 #[.val (.int xn), .val (.int xa), .val (.int p0), .val (.int p1), .val (.int p2), .val (.int (1 : Int32)), .val (.int av), .val (.int v0), .val (.int v1), .val (.int v2), .val (.ref ca), .unset, .unset, .unset] [(.int v2), (.int v1), (.int v0), (.int (1 : Int32)), (.int av)])) (fun tgt k => ?_) ?_
    · show Steps p.tables e below (T12.setTop (mkF m 60 #[.val (.int xn), .val (.int xa), .val (.int p0), .val (.int p1), .val (.int p2), .val (.int (1 : Int32)), .val (.int av), .val (.int v0), .val (.int v1), .val (.int v2), .val (.ref ca), .unset, .unset, .unset] [])) tgt
      refine XS.iload X12.here hx rfl (hb hby at_60) rfl ?_
      show Steps p.tables e below (T12.setTop (mkF m 62 #[.val (.int xn), .val (.int xa), .val (.int p0), .val (.int p1), .val (.int p2), .val (.int (1 : Int32)), .val (.int av), .val (.int v0), .val (.int v1), .val (.int v2), .val (.ref ca), .unset, .unset, .unset] [(.int (1 : Int32))])) tgt
      refine XS.iconst X12.here hx rfl (hb hby at_62) ?_
      show Steps p.tables e below (T12.setTop (mkF m 63 #[.val (.int xn), .val (.int xa), .val (.int p0), .val (.int p1), .val (.int p2), .val (.int (1 : Int32)), .val (.int av), .val (.int v0), .val (.int v1), .val (.int v2), .val (.ref ca), .unset, .unset, .unset] [(.int (1 : Int32)), (.int (1 : Int32))])) tgt
      refine XS.icmpYes X12.here hx rfl (pc0 := 63) (pc' := 73) rfl (hb hby at_63) rfl (flt (by decide : ¬ ((1 : Int32) < (1 : Int32)))).2.2.2 (by decide) (by decide) ?_
      show Steps p.tables e below (T12.setTop (mkF m 73 #[.val (.int xn), .val (.int xa), .val (.int p0), .val (.int p1), .val (.int p2), .val (.int (1 : Int32)), .val (.int av), .val (.int v0), .val (.int v1), .val (.int v2), .val (.ref ca), .unset, .unset, .unset] [])) tgt
      refine XS.iload X12.here hx rfl (hb hby at_73) rfl ?_
      show Steps p.tables e below (T12.setTop (mkF m 75 #[.val (.int xn), .val (.int xa), .val (.int p0), .val (.int p1), .val (.int p2), .val (.int (1 : Int32)), .val (.int av), .val (.int v0), .val (.int v1), .val (.int v2), .val (.ref ca), .unset, .unset, .unset] [(.int (1 : Int32))])) tgt
      refine XS.iconst X12.here hx rfl (hb hby at_75) ?_
      show Steps p.tables e below (T12.setTop (mkF m 76 #[.val (.int xn), .val (.int xa), .val (.int p0), .val (.int p1), .val (.int p2), .val (.int (1 : Int32)), .val (.int av), .val (.int v0), .val (.int v1), .val (.int v2), .val (.ref ca), .unset, .unset, .unset] [(.int (2 : Int32)), (.int (1 : Int32))])) tgt
      refine XS.icmpYes X12.here hx rfl (pc0 := 76) (pc' := 86) rfl (hb hby at_76) rfl (flt (by decide : ¬ ((2 : Int32) < (1 : Int32)))).2.2.2 (by decide) (by decide) ?_
      show Steps p.tables e below (T12.setTop (mkF m 86 #[.val (.int xn), .val (.int xa), .val (.int p0), .val (.int p1), .val (.int p2), .val (.int (1 : Int32)), .val (.int av), .val (.int v0), .val (.int v1), .val (.int v2), .val (.ref ca), .unset, .unset, .unset] [])) tgt
      refine XS.iload X12.here hx rfl (hb hby at_86) rfl ?_
      show Steps p.tables e below (T12.setTop (mkF m 88 #[.val (.int xn), .val (.int xa), .val (.int p0), .val (.int p1), .val (.int p2), .val (.int (1 : Int32)), .val (.int av), .val (.int v0), .val (.int v1), .val (.int v2), .val (.ref ca), .unset, .unset, .unset] [(.int av)])) tgt
      refine XS.iload X12.here hx rfl (hb hby at_88) rfl ?_
      show Steps p.tables e below (T12.setTop (mkF m 90 #[.val (.int xn), .val (.int xa), .val (.int p0), .val (.int p1), .val (.int p2), .val (.int (1 : Int32)), .val (.int av), .val (.int v0), .val (.int v1), .val (.int v2), .val (.ref ca), .unset, .unset, .unset] [(.int (1 : Int32)), (.int av)])) tgt
      refine XS.iload X12.here hx rfl (hb hby at_90) rfl ?_
      show Steps p.tables e below (T12.setTop (mkF m 92 #[.val (.int xn), .val (.int xa), .val (.int p0), .val (.int p1), .val (.int p2), .val (.int (1 : Int32)), .val (.int av), .val (.int v0), .val (.int v1), .val (.int v2), .val (.ref ca), .unset, .unset, .unset] [(.int v0), (.int (1 : Int32)), (.int av)])) tgt
      refine XS.iload X12.here hx rfl (hb hby at_92) rfl ?_
      show Steps p.tables e below (T12.setTop (mkF m 94 #[.val (.int xn), .val (.int xa), .val (.int p0), .val (.int p1), .val (.int p2), .val (.int (1 : Int32)), .val (.int av), .val (.int v0), .val (.int v1), .val (.int v2), .val (.ref ca), .unset, .unset, .unset] [(.int v1), (.int v0), (.int (1 : Int32)), (.int av)])) tgt
      refine XS.iload X12.here hx rfl (hb hby at_94) rfl ?_
      exact k
    obtain ⟨_, _, ⟨T14, L14, k14, n14⟩, -, X14, ⟨Lc14, hQ14, l14, y14, z14⟩, st14⟩ := Jvm.LawKit.callS X12 hx (y := (⟨"com/example/tidewatch/tidewatch/io/DecimalSkipSignPinLaw", "drawnAt", "(IIIII)I"⟩ : MethodName)) hown (mvT hZ (hw _ (List.mem_of_getElem? (i := 5) rfl))) (mvT hZ (hw _ (List.mem_of_getElem? (i := 6) rfl))) (mvT hZ (hw _ (List.mem_of_getElem? (i := 2) rfl))) (mvT hZ (hw _ (List.mem_of_getElem? (i := 7) rfl))) (by decide) (backOf (W := 0) (rm2 l Z a0 hw [] av (1 : Int32) v0 v1 v2 h12 n0 Zs12 ) hZ (hw _ (List.mem_of_getElem? (i := 7) rfl)) (hw _ (List.mem_of_getElem? (i := 2) rfl)) (by decide) (by decide)) (g := (mkF m 96 #[.val (.int xn), .val (.int xa), .val (.int p0), .val (.int p1), .val (.int p2), .val (.int (1 : Int32)), .val (.int av), .val (.int v0), .val (.int v1), .val (.int v2), .val (.ref ca), .unset, .unset, .unset] [(.int v2), (.int v1), (.int v0), (.int (1 : Int32)), (.int av)])) rfl (by rw [hml]; rfl) (argsL := [(.int av), (.int (1 : Int32)), (.int v0), (.int v1), (.int v2)]) (rest := []) (lenOf pd_0_1 rfl) rfl (by show 2 * 0 + _ ≤ _; exact Nat.le_of_eq rfl) (hb hby at_96) (fun _ _ => ⟨rfl, e12, (by decide : 1 + 0 ≤ _), (by decide : 1 + 0 ≤ _)⟩)
    dsimp only [Pt.U, Pt.locs, Pt.cells, Pt.slots] at X14 l14 y14 z14 st14 hQ14
    subst l14 y14 z14
    obtain ⟨rfl, N14q, K14⟩ := hQ14
    have N14 := Fr.app N12 N14q
    refine own_st st14 ?_
    show own_Go p e below _ (T14.setTop (mkF m 99 #[.val (.int xn), .val (.int xa), .val (.int p0), .val (.int p1), .val (.int p2), .val (.int (1 : Int32)), .val (.int av), .val (.int v0), .val (.int v1), .val (.int v2), .val (.ref ca), .unset, .unset, .unset] [(.int (own_drawn av (1 : Int32) v0 v1 v2))]))
    refine own_st (V := T14.setTop (mkF m 101 #[.val (.int xn), .val (.int xa), .val (.int p0), .val (.int p1), .val (.int p2), .val (.int (1 : Int32)), .val (.int av), .val (.int v0), .val (.int v1), .val (.int v2), .val (.ref ca), .val (.int (own_drawn av (1 : Int32) v0 v1 v2)), .unset, .unset] [])) (fun tgt k => ?_) ?_
    · show Steps p.tables e below (T14.setTop (mkF m 99 #[.val (.int xn), .val (.int xa), .val (.int p0), .val (.int p1), .val (.int p2), .val (.int (1 : Int32)), .val (.int av), .val (.int v0), .val (.int v1), .val (.int v2), .val (.ref ca), .unset, .unset, .unset] [(.int (own_drawn av (1 : Int32) v0 v1 v2))])) tgt
      refine XS.istore X14.here hx rfl (hb hby at_99) rfl (l' := #[.val (.int xn), .val (.int xa), .val (.int p0), .val (.int p1), .val (.int p2), .val (.int (1 : Int32)), .val (.int av), .val (.int v0), .val (.int v1), .val (.int v2), .val (.ref ca), .val (.int (own_drawn av (1 : Int32) v0 v1 v2)), .unset, .unset]) rfl ?_
      exact k
    obtain ⟨dw, hdw⟩ : ∃ z : Int32, z = (own_drawn av (1 : Int32) v0 v1 v2) := ⟨_, rfl⟩
    rw [← hdw]
    refine own_st (V := T14.setTop (mkF m 105 #[.val (.int xn), .val (.int xa), .val (.int p0), .val (.int p1), .val (.int p2), .val (.int (1 : Int32)), .val (.int av), .val (.int v0), .val (.int v1), .val (.int v2), .val (.ref ca), .val (.int dw), .unset, .unset] [(.int (43 : Int32)), (.int dw)])) (fun tgt k => ?_) ?_
    · show Steps p.tables e below (T14.setTop (mkF m 101 #[.val (.int xn), .val (.int xa), .val (.int p0), .val (.int p1), .val (.int p2), .val (.int (1 : Int32)), .val (.int av), .val (.int v0), .val (.int v1), .val (.int v2), .val (.ref ca), .val (.int dw), .unset, .unset] [])) tgt
      refine XS.iload X14.here hx rfl (hb hby at_101) rfl ?_
      show Steps p.tables e below (T14.setTop (mkF m 103 #[.val (.int xn), .val (.int xa), .val (.int p0), .val (.int p1), .val (.int p2), .val (.int (1 : Int32)), .val (.int av), .val (.int v0), .val (.int v1), .val (.int v2), .val (.ref ca), .val (.int dw), .unset, .unset] [(.int dw)])) tgt
      refine XS.bipush X14.here hx rfl (hb hby at_103) ?_
      exact k
    obtain ⟨xe, hxe⟩ : ∃ z : Int32, z = (if dw = (43 : Int32) then (av + (1 : Int32)) else (if dw = (45 : Int32) then (av + (1 : Int32)) else av)) := ⟨_, rfl⟩
    refine own_st (V := T14.setTop (mkF m 124 #[.val (.int xn), .val (.int xa), .val (.int p0), .val (.int p1), .val (.int p2), .val (.int (1 : Int32)), .val (.int av), .val (.int v0), .val (.int v1), .val (.int v2), .val (.ref ca), .val (.int dw), .unset, .unset] [(.int xe)])) (fun tgt k => ?_) ?_
    · skip
      by_cases hc105_2 : dw = (43 : Int32)
      · skip
        rw [if_pos hc105_2] at hxe
        show Steps p.tables e below (T14.setTop (mkF m 105 #[.val (.int xn), .val (.int xa), .val (.int p0), .val (.int p1), .val (.int p2), .val (.int (1 : Int32)), .val (.int av), .val (.int v0), .val (.int v1), .val (.int v2), .val (.ref ca), .val (.int dw), .unset, .unset] [(.int (43 : Int32)), (.int dw)])) tgt
        refine XS.icmpYes X14.here hx rfl (pc0 := 105) (pc' := 115) rfl (hb hby at_105) rfl (teq hc105_2).1 (by decide) (by decide) ?_
        show Steps p.tables e below (T14.setTop (mkF m 115 #[.val (.int xn), .val (.int xa), .val (.int p0), .val (.int p1), .val (.int p2), .val (.int (1 : Int32)), .val (.int av), .val (.int v0), .val (.int v1), .val (.int v2), .val (.ref ca), .val (.int dw), .unset, .unset] [])) tgt
        refine XS.iload X14.here hx rfl (hb hby at_115) rfl ?_
        show Steps p.tables e below (T14.setTop (mkF m 117 #[.val (.int xn), .val (.int xa), .val (.int p0), .val (.int p1), .val (.int p2), .val (.int (1 : Int32)), .val (.int av), .val (.int v0), .val (.int v1), .val (.int v2), .val (.ref ca), .val (.int dw), .unset, .unset] [(.int av)])) tgt
        refine XS.iconst X14.here hx rfl (hb hby at_117) ?_
        show Steps p.tables e below (T14.setTop (mkF m 118 #[.val (.int xn), .val (.int xa), .val (.int p0), .val (.int p1), .val (.int p2), .val (.int (1 : Int32)), .val (.int av), .val (.int v0), .val (.int v1), .val (.int v2), .val (.ref ca), .val (.int dw), .unset, .unset] [(.int (1 : Int32)), (.int av)])) tgt
        refine XS.iadd X14.here hx rfl (hb hby at_118) rfl ?_
        show Steps p.tables e below (T14.setTop (mkF m 119 #[.val (.int xn), .val (.int xa), .val (.int p0), .val (.int p1), .val (.int p2), .val (.int (1 : Int32)), .val (.int av), .val (.int v0), .val (.int v1), .val (.int v2), .val (.ref ca), .val (.int dw), .unset, .unset] [(.int (av + (1 : Int32)))])) tgt
        refine XS.goto X14.here hx rfl (pc0 := 119) (pc' := 124) rfl (hb hby at_119) (by decide) (by decide) ?_
        rw [hxe] at k
        exact k
      · skip
        rw [if_neg hc105_2] at hxe
        show Steps p.tables e below (T14.setTop (mkF m 105 #[.val (.int xn), .val (.int xa), .val (.int p0), .val (.int p1), .val (.int p2), .val (.int (1 : Int32)), .val (.int av), .val (.int v0), .val (.int v1), .val (.int v2), .val (.ref ca), .val (.int dw), .unset, .unset] [(.int (43 : Int32)), (.int dw)])) tgt
        refine XS.icmpNo X14.here hx rfl (hb hby at_105) rfl (feq hc105_2).1 ?_
        show Steps p.tables e below (T14.setTop (mkF m 108 #[.val (.int xn), .val (.int xa), .val (.int p0), .val (.int p1), .val (.int p2), .val (.int (1 : Int32)), .val (.int av), .val (.int v0), .val (.int v1), .val (.int v2), .val (.ref ca), .val (.int dw), .unset, .unset] [])) tgt
        refine XS.iload X14.here hx rfl (hb hby at_108) rfl ?_
        show Steps p.tables e below (T14.setTop (mkF m 110 #[.val (.int xn), .val (.int xa), .val (.int p0), .val (.int p1), .val (.int p2), .val (.int (1 : Int32)), .val (.int av), .val (.int v0), .val (.int v1), .val (.int v2), .val (.ref ca), .val (.int dw), .unset, .unset] [(.int dw)])) tgt
        refine XS.bipush X14.here hx rfl (hb hby at_110) ?_
        by_cases hc112 : dw = (45 : Int32)
        · skip
          rw [if_pos hc112] at hxe
          show Steps p.tables e below (T14.setTop (mkF m 112 #[.val (.int xn), .val (.int xa), .val (.int p0), .val (.int p1), .val (.int p2), .val (.int (1 : Int32)), .val (.int av), .val (.int v0), .val (.int v1), .val (.int v2), .val (.ref ca), .val (.int dw), .unset, .unset] [(.int (45 : Int32)), (.int dw)])) tgt
          refine XS.icmpNo X14.here hx rfl (hb hby at_112) rfl (teq hc112).2 ?_
          show Steps p.tables e below (T14.setTop (mkF m 115 #[.val (.int xn), .val (.int xa), .val (.int p0), .val (.int p1), .val (.int p2), .val (.int (1 : Int32)), .val (.int av), .val (.int v0), .val (.int v1), .val (.int v2), .val (.ref ca), .val (.int dw), .unset, .unset] [])) tgt
          refine XS.iload X14.here hx rfl (hb hby at_115) rfl ?_
          show Steps p.tables e below (T14.setTop (mkF m 117 #[.val (.int xn), .val (.int xa), .val (.int p0), .val (.int p1), .val (.int p2), .val (.int (1 : Int32)), .val (.int av), .val (.int v0), .val (.int v1), .val (.int v2), .val (.ref ca), .val (.int dw), .unset, .unset] [(.int av)])) tgt
          refine XS.iconst X14.here hx rfl (hb hby at_117) ?_
          show Steps p.tables e below (T14.setTop (mkF m 118 #[.val (.int xn), .val (.int xa), .val (.int p0), .val (.int p1), .val (.int p2), .val (.int (1 : Int32)), .val (.int av), .val (.int v0), .val (.int v1), .val (.int v2), .val (.ref ca), .val (.int dw), .unset, .unset] [(.int (1 : Int32)), (.int av)])) tgt
          refine XS.iadd X14.here hx rfl (hb hby at_118) rfl ?_
          show Steps p.tables e below (T14.setTop (mkF m 119 #[.val (.int xn), .val (.int xa), .val (.int p0), .val (.int p1), .val (.int p2), .val (.int (1 : Int32)), .val (.int av), .val (.int v0), .val (.int v1), .val (.int v2), .val (.ref ca), .val (.int dw), .unset, .unset] [(.int (av + (1 : Int32)))])) tgt
          refine XS.goto X14.here hx rfl (pc0 := 119) (pc' := 124) rfl (hb hby at_119) (by decide) (by decide) ?_
          rw [hxe] at k
          exact k
        · skip
          rw [if_neg hc112] at hxe
          show Steps p.tables e below (T14.setTop (mkF m 112 #[.val (.int xn), .val (.int xa), .val (.int p0), .val (.int p1), .val (.int p2), .val (.int (1 : Int32)), .val (.int av), .val (.int v0), .val (.int v1), .val (.int v2), .val (.ref ca), .val (.int dw), .unset, .unset] [(.int (45 : Int32)), (.int dw)])) tgt
          refine XS.icmpYes X14.here hx rfl (pc0 := 112) (pc' := 122) rfl (hb hby at_112) rfl (feq hc112).2 (by decide) (by decide) ?_
          show Steps p.tables e below (T14.setTop (mkF m 122 #[.val (.int xn), .val (.int xa), .val (.int p0), .val (.int p1), .val (.int p2), .val (.int (1 : Int32)), .val (.int av), .val (.int v0), .val (.int v1), .val (.int v2), .val (.ref ca), .val (.int dw), .unset, .unset] [])) tgt
          refine XS.iload X14.here hx rfl (hb hby at_122) rfl ?_
          rw [hxe] at k
          exact k
    refine own_st (V := T14.setTop (mkF m 130 #[.val (.int xn), .val (.int xa), .val (.int p0), .val (.int p1), .val (.int p2), .val (.int (1 : Int32)), .val (.int av), .val (.int v0), .val (.int v1), .val (.int v2), .val (.ref ca), .val (.int dw), .val (.int xe), .unset] [(.int av), (.ref ca)])) (fun tgt k => ?_) ?_
    · show Steps p.tables e below (T14.setTop (mkF m 124 #[.val (.int xn), .val (.int xa), .val (.int p0), .val (.int p1), .val (.int p2), .val (.int (1 : Int32)), .val (.int av), .val (.int v0), .val (.int v1), .val (.int v2), .val (.ref ca), .val (.int dw), .unset, .unset] [(.int xe)])) tgt
      refine XS.istore X14.here hx rfl (hb hby at_124) rfl (l' := #[.val (.int xn), .val (.int xa), .val (.int p0), .val (.int p1), .val (.int p2), .val (.int (1 : Int32)), .val (.int av), .val (.int v0), .val (.int v1), .val (.int v2), .val (.ref ca), .val (.int dw), .val (.int xe), .unset]) rfl ?_
      show Steps p.tables e below (T14.setTop (mkF m 126 #[.val (.int xn), .val (.int xa), .val (.int p0), .val (.int p1), .val (.int p2), .val (.int (1 : Int32)), .val (.int av), .val (.int v0), .val (.int v1), .val (.int v2), .val (.ref ca), .val (.int dw), .val (.int xe), .unset] [])) tgt
      refine XS.aload X14.here hx rfl (hb hby at_126) rfl rfl ?_
      show Steps p.tables e below (T14.setTop (mkF m 128 #[.val (.int xn), .val (.int xa), .val (.int p0), .val (.int p1), .val (.int p2), .val (.int (1 : Int32)), .val (.int av), .val (.int v0), .val (.int v1), .val (.int v2), .val (.ref ca), .val (.int dw), .val (.int xe), .unset] [(.ref ca)])) tgt
      refine XS.iload X14.here hx rfl (hb hby at_128) rfl ?_
      exact k
    obtain ⟨_, _, ⟨T15, L15, k15, n15⟩, -, X15, ⟨Lc15, hQ15, l15, y15, z15⟩, st15⟩ := Jvm.LawKit.callS X14 hx (y := (⟨"com/example/tidewatch/tidewatch/io/Decimal", "skipSign", "([BI)I"⟩ : MethodName)) hown (mvT hZ (hw _ (List.mem_of_getElem? (i := 8) rfl))) (mvT hZ (hw _ (List.mem_of_getElem? (i := 9) rfl))) (mvT hZ (hw _ (List.mem_of_getElem? (i := 10) rfl))) (mvT hZ (hw _ (List.mem_of_getElem? (i := 11) rfl))) (by decide) (backOf (W := 0) (rm3 l Z a0 hw [] ca av (1 : Int32) 1 (own_up (fun _ => 0) 0 v0) h12 n0 Zs12 Af_ca_13 (by decide) hav0) hZ (hw _ (List.mem_of_getElem? (i := 11) rfl)) (hw _ (List.mem_of_getElem? (i := 10) rfl)) (by decide) (by decide)) (g := (mkF m 130 #[.val (.int xn), .val (.int xa), .val (.int p0), .val (.int p1), .val (.int p2), .val (.int (1 : Int32)), .val (.int av), .val (.int v0), .val (.int v1), .val (.int v2), .val (.ref ca), .val (.int dw), .val (.int xe), .unset] [(.int av), (.ref ca)])) rfl (by rw [hml]; rfl) (argsL := [(.ref ca), (.int av)]) (rest := []) (lenOf pd_0_2 rfl) rfl (by show 2 * 0 + _ ≤ _; exact Nat.le_of_eq rfl) (hb hby at_130) (fun _ _ => ⟨rfl, K14, (by decide : 1 + 0 ≤ _), (by decide : 1 + 0 ≤ _)⟩)
    dsimp only [Pt.U, Pt.locs, Pt.cells, Pt.slots] at X15 l15 y15 z15 st15 hQ15
    subst l15 y15 z15
    obtain ⟨rfl, N15q, K15⟩ := hQ15
    have N15 := Fr.app N14 N15q
    refine own_st st15 ?_
    show own_Go p e below _ (T15.setTop (mkF m 133 #[.val (.int xn), .val (.int xa), .val (.int p0), .val (.int p1), .val (.int p2), .val (.int (1 : Int32)), .val (.int av), .val (.int v0), .val (.int v1), .val (.int v2), .val (.ref ca), .val (.int dw), .val (.int xe), .unset] [(.int (own_skip (own_up (fun _ => 0) 0 v0) av (1 : Int32)))]))
    refine own_st (V := T15.setTop (mkF m 147 #[.val (.int xn), .val (.int xa), .val (.int p0), .val (.int p1), .val (.int p2), .val (.int (1 : Int32)), .val (.int av), .val (.int v0), .val (.int v1), .val (.int v2), .val (.ref ca), .val (.int dw), .val (.int xe), .val (.int (own_skip (own_up (fun _ => 0) 0 v0) av (1 : Int32)))] [(.int (1 : Int32))])) (fun tgt k => ?_) ?_
    · show Steps p.tables e below (T15.setTop (mkF m 133 #[.val (.int xn), .val (.int xa), .val (.int p0), .val (.int p1), .val (.int p2), .val (.int (1 : Int32)), .val (.int av), .val (.int v0), .val (.int v1), .val (.int v2), .val (.ref ca), .val (.int dw), .val (.int xe), .unset] [(.int (own_skip (own_up (fun _ => 0) 0 v0) av (1 : Int32)))])) tgt
      refine XS.istore X15.here hx rfl (hb hby at_133) rfl (l' := #[.val (.int xn), .val (.int xa), .val (.int p0), .val (.int p1), .val (.int p2), .val (.int (1 : Int32)), .val (.int av), .val (.int v0), .val (.int v1), .val (.int v2), .val (.ref ca), .val (.int dw), .val (.int xe), .val (.int (own_skip (own_up (fun _ => 0) 0 v0) av (1 : Int32)))]) rfl ?_
      show Steps p.tables e below (T15.setTop (mkF m 135 #[.val (.int xn), .val (.int xa), .val (.int p0), .val (.int p1), .val (.int p2), .val (.int (1 : Int32)), .val (.int av), .val (.int v0), .val (.int v1), .val (.int v2), .val (.ref ca), .val (.int dw), .val (.int xe), .val (.int (own_skip (own_up (fun _ => 0) 0 v0) av (1 : Int32)))] [])) tgt
      refine XS.iload X15.here hx rfl (hb hby at_135) rfl ?_
      show Steps p.tables e below (T15.setTop (mkF m 137 #[.val (.int xn), .val (.int xa), .val (.int p0), .val (.int p1), .val (.int p2), .val (.int (1 : Int32)), .val (.int av), .val (.int v0), .val (.int v1), .val (.int v2), .val (.ref ca), .val (.int dw), .val (.int xe), .val (.int (own_skip (own_up (fun _ => 0) 0 v0) av (1 : Int32)))] [(.int (own_skip (own_up (fun _ => 0) 0 v0) av (1 : Int32)))])) tgt
      refine XS.iload X15.here hx rfl (hb hby at_137) rfl ?_
      show Steps p.tables e below (T15.setTop (mkF m 139 #[.val (.int xn), .val (.int xa), .val (.int p0), .val (.int p1), .val (.int p2), .val (.int (1 : Int32)), .val (.int av), .val (.int v0), .val (.int v1), .val (.int v2), .val (.ref ca), .val (.int dw), .val (.int xe), .val (.int (own_skip (own_up (fun _ => 0) 0 v0) av (1 : Int32)))] [(.int xe), (.int (own_skip (own_up (fun _ => 0) 0 v0) av (1 : Int32)))])) tgt
      refine XS.icmpNo X15.here hx rfl (hb hby at_139) rfl (teq (by rw [hxe, hdw]; exact own_fin _ _ _ _ _ _ hav0 (by decide) (by first | exact fun _ => rfl | exact fun h => absurd h (by decide)) (by first | exact fun _ => rfl | exact fun h => absurd h (by decide)) (by first | exact fun _ => rfl | exact fun h => absurd h (by decide)))).2 ?_
      show Steps p.tables e below (T15.setTop (mkF m 142 #[.val (.int xn), .val (.int xa), .val (.int p0), .val (.int p1), .val (.int p2), .val (.int (1 : Int32)), .val (.int av), .val (.int v0), .val (.int v1), .val (.int v2), .val (.ref ca), .val (.int dw), .val (.int xe), .val (.int (own_skip (own_up (fun _ => 0) 0 v0) av (1 : Int32)))] [])) tgt
      refine XS.iconst X15.here hx rfl (hb hby at_142) ?_
      show Steps p.tables e below (T15.setTop (mkF m 143 #[.val (.int xn), .val (.int xa), .val (.int p0), .val (.int p1), .val (.int p2), .val (.int (1 : Int32)), .val (.int av), .val (.int v0), .val (.int v1), .val (.int v2), .val (.ref ca), .val (.int dw), .val (.int xe), .val (.int (own_skip (own_up (fun _ => 0) 0 v0) av (1 : Int32)))] [(.int (1 : Int32))])) tgt
      refine XS.goto X15.here hx rfl (pc0 := 143) (pc' := 147) rfl (hb hby at_143) (by decide) (by decide) ?_
      exact k
    refine own_retN X15 hx hlk (t := .boolean) (z' := (1 : Int32)) Bd.returns (by simp) rfl (hb hby at_147) ?_ (by decide) (by decide)
    show Q0 Z xn xa p0 p1 p2 h0 n0 (some (.int (1 : Int32))) T15.heap _
    rw [K15]
    exact ⟨rfl, N15⟩
  · skip
    rw [show (xn &&& (3 : Int32)) = (2 : Int32) from q]
    refine own_st (V := s₁.setTop (mkF m 8 #[.val (.int xn), .val (.int xa), .val (.int p0), .val (.int p1), .val (.int p2), .val (.int (2 : Int32)), .unset, .unset, .unset, .unset, .unset, .unset, .unset, .unset] [(.int (xn &&& (4 : Int32)))])) (fun tgt k => ?_) ?_
    · show Steps p.tables e below (s₁.setTop (mkF m 5 #[.val (.int xn), .val (.int xa), .val (.int p0), .val (.int p1), .val (.int p2), .val (.int (2 : Int32)), .unset, .unset, .unset, .unset, .unset, .unset, .unset, .unset] [])) tgt
      refine XS.iloadN X0.here hx rfl (hb hby at_5) rfl ?_
      show Steps p.tables e below (s₁.setTop (mkF m 6 #[.val (.int xn), .val (.int xa), .val (.int p0), .val (.int p1), .val (.int p2), .val (.int (2 : Int32)), .unset, .unset, .unset, .unset, .unset, .unset, .unset, .unset] [(.int xn)])) tgt
      refine XS.iconst X0.here hx rfl (hb hby at_6) ?_
      show Steps p.tables e below (s₁.setTop (mkF m 7 #[.val (.int xn), .val (.int xa), .val (.int p0), .val (.int p1), .val (.int p2), .val (.int (2 : Int32)), .unset, .unset, .unset, .unset, .unset, .unset, .unset, .unset] [(.int (4 : Int32)), (.int xn)])) tgt
      refine XS.iand X0.here hx rfl (hb hby at_7) rfl ?_
      exact k
    obtain ⟨av, hav⟩ : ∃ z : Int32, z = (if (xn &&& (4 : Int32)) = (0 : Int32) then (xa &&& (3 : Int32)) else (xa &&& (2147483647 : Int32))) := ⟨_, rfl⟩
    refine own_st (V := s₁.setTop (mkF m 21 #[.val (.int xn), .val (.int xa), .val (.int p0), .val (.int p1), .val (.int p2), .val (.int (2 : Int32)), .unset, .unset, .unset, .unset, .unset, .unset, .unset, .unset] [(.int av)])) (fun tgt k => ?_) ?_
    · skip
      by_cases hc8_2 : (xn &&& (4 : Int32)) = (0 : Int32)
      · skip
        rw [if_pos hc8_2] at hav
        show Steps p.tables e below (s₁.setTop (mkF m 8 #[.val (.int xn), .val (.int xa), .val (.int p0), .val (.int p1), .val (.int p2), .val (.int (2 : Int32)), .unset, .unset, .unset, .unset, .unset, .unset, .unset, .unset] [(.int (xn &&& (4 : Int32)))])) tgt
        refine XS.ifYes X0.here hx rfl (pc0 := 8) (pc' := 18) rfl (hb hby at_8) rfl ((if0 _ _).trans (teq hc8_2).1) (by decide) (by decide) ?_
        show Steps p.tables e below (s₁.setTop (mkF m 18 #[.val (.int xn), .val (.int xa), .val (.int p0), .val (.int p1), .val (.int p2), .val (.int (2 : Int32)), .unset, .unset, .unset, .unset, .unset, .unset, .unset, .unset] [])) tgt
        refine XS.iloadN X0.here hx rfl (hb hby at_18) rfl ?_
        show Steps p.tables e below (s₁.setTop (mkF m 19 #[.val (.int xn), .val (.int xa), .val (.int p0), .val (.int p1), .val (.int p2), .val (.int (2 : Int32)), .unset, .unset, .unset, .unset, .unset, .unset, .unset, .unset] [(.int xa)])) tgt
        refine XS.iconst X0.here hx rfl (hb hby at_19) ?_
        show Steps p.tables e below (s₁.setTop (mkF m 20 #[.val (.int xn), .val (.int xa), .val (.int p0), .val (.int p1), .val (.int p2), .val (.int (2 : Int32)), .unset, .unset, .unset, .unset, .unset, .unset, .unset, .unset] [(.int (3 : Int32)), (.int xa)])) tgt
        refine XS.iand X0.here hx rfl (hb hby at_20) rfl ?_
        rw [hav] at k
        exact k
      · skip
        rw [if_neg hc8_2] at hav
        show Steps p.tables e below (s₁.setTop (mkF m 8 #[.val (.int xn), .val (.int xa), .val (.int p0), .val (.int p1), .val (.int p2), .val (.int (2 : Int32)), .unset, .unset, .unset, .unset, .unset, .unset, .unset, .unset] [(.int (xn &&& (4 : Int32)))])) tgt
        refine XS.ifNo X0.here hx rfl (hb hby at_8) rfl ((if0 _ _).trans (feq hc8_2).1) ?_
        show Steps p.tables e below (s₁.setTop (mkF m 11 #[.val (.int xn), .val (.int xa), .val (.int p0), .val (.int p1), .val (.int p2), .val (.int (2 : Int32)), .unset, .unset, .unset, .unset, .unset, .unset, .unset, .unset] [])) tgt
        refine XS.iloadN X0.here hx rfl (hb hby at_11) rfl ?_
        show Steps p.tables e below (s₁.setTop (mkF m 12 #[.val (.int xn), .val (.int xa), .val (.int p0), .val (.int p1), .val (.int p2), .val (.int (2 : Int32)), .unset, .unset, .unset, .unset, .unset, .unset, .unset, .unset] [(.int xa)])) tgt
        refine X0.ldcInt hx hown (mvT hZ (hw _ (List.mem_of_getElem? (i := 12) rfl))) (g := (mkF m 12 #[.val (.int xn), .val (.int xa), .val (.int p0), .val (.int p1), .val (.int p2), .val (.int (2 : Int32)), .unset, .unset, .unset, .unset, .unset, .unset, .unset, .unset] [(.int xa)])) rfl (hb hby at_12) _ ?_
        show Steps p.tables e below (s₁.setTop (mkF m 14 #[.val (.int xn), .val (.int xa), .val (.int p0), .val (.int p1), .val (.int p2), .val (.int (2 : Int32)), .unset, .unset, .unset, .unset, .unset, .unset, .unset, .unset] [(.int (2147483647 : Int32)), (.int xa)])) tgt
        refine XS.iand X0.here hx rfl (hb hby at_14) rfl ?_
        show Steps p.tables e below (s₁.setTop (mkF m 15 #[.val (.int xn), .val (.int xa), .val (.int p0), .val (.int p1), .val (.int p2), .val (.int (2 : Int32)), .unset, .unset, .unset, .unset, .unset, .unset, .unset, .unset] [(.int (xa &&& (2147483647 : Int32)))])) tgt
        refine XS.goto X0.here hx rfl (pc0 := 15) (pc' := 21) rfl (hb hby at_15) (by decide) (by decide) ?_
        rw [hav] at k
        exact k
    have hav0 : 0 ≤ av.toInt := by
      rw [hav]; split
      · exact (c_and xa 3 (by decide)).1
      · exact (c_and xa 2147483647 (by decide)).1
    refine own_st (V := s₁.setTop (mkF m 24 #[.val (.int xn), .val (.int xa), .val (.int p0), .val (.int p1), .val (.int p2), .val (.int (2 : Int32)), .val (.int av), .unset, .unset, .unset, .unset, .unset, .unset, .unset] [(.int p0)])) (fun tgt k => ?_) ?_
    · show Steps p.tables e below (s₁.setTop (mkF m 21 #[.val (.int xn), .val (.int xa), .val (.int p0), .val (.int p1), .val (.int p2), .val (.int (2 : Int32)), .unset, .unset, .unset, .unset, .unset, .unset, .unset, .unset] [(.int av)])) tgt
      refine XS.istore X0.here hx rfl (hb hby at_21) rfl (l' := #[.val (.int xn), .val (.int xa), .val (.int p0), .val (.int p1), .val (.int p2), .val (.int (2 : Int32)), .val (.int av), .unset, .unset, .unset, .unset, .unset, .unset, .unset]) rfl ?_
      show Steps p.tables e below (s₁.setTop (mkF m 23 #[.val (.int xn), .val (.int xa), .val (.int p0), .val (.int p1), .val (.int p2), .val (.int (2 : Int32)), .val (.int av), .unset, .unset, .unset, .unset, .unset, .unset, .unset] [])) tgt
      refine XS.iloadN X0.here hx rfl (hb hby at_23) rfl ?_
      exact k
    obtain ⟨_, _, ⟨T17, L17, k17, n17⟩, -, X17, ⟨Lc17, hQ17, l17, y17, z17⟩, st17⟩ := Jvm.LawKit.callS X0 hx (y := (⟨"com/example/tidewatch/tidewatch/io/DecimalSkipSignPinLaw", "pick", "(I)I"⟩ : MethodName)) hown (mvT hZ (hw _ (List.mem_of_getElem? (i := 0) rfl))) (mvT hZ (hw _ (List.mem_of_getElem? (i := 1) rfl))) (mvT hZ (hw _ (List.mem_of_getElem? (i := 2) rfl))) (mvT hZ (hw _ (List.mem_of_getElem? (i := 3) rfl))) (by decide) (backOf (W := 0) (rm1 l Z a0 hw [] p0 h0 n0 Z0 ) hZ (hw _ (List.mem_of_getElem? (i := 3) rfl)) (hw _ (List.mem_of_getElem? (i := 2) rfl)) (by decide) (by decide)) (g := (mkF m 24 #[.val (.int xn), .val (.int xa), .val (.int p0), .val (.int p1), .val (.int p2), .val (.int (2 : Int32)), .val (.int av), .unset, .unset, .unset, .unset, .unset, .unset, .unset] [(.int p0)])) rfl (by rw [hml]; rfl) (argsL := [(.int p0)]) (rest := []) (lenOf pd_0_0 rfl) rfl (by show 2 * 0 + _ ≤ _; exact Nat.le_of_eq rfl) (hb hby at_24) (fun _ _ => ⟨rfl, e0, (by decide : 0 + 0 ≤ _), (by decide : 0 + 0 ≤ _)⟩)
    dsimp only [Pt.U, Pt.locs, Pt.cells, Pt.slots] at X17 l17 y17 z17 st17 hQ17
    subst l17 y17 z17
    obtain ⟨rfl, N17q, K17⟩ := hQ17
    have N17 := Fr.app N0 N17q
    refine own_st st17 ?_
    show own_Go p e below _ (T17.setTop (mkF m 27 #[.val (.int xn), .val (.int xa), .val (.int p0), .val (.int p1), .val (.int p2), .val (.int (2 : Int32)), .val (.int av), .unset, .unset, .unset, .unset, .unset, .unset, .unset] [(.int (own_pick p0))]))
    refine own_st (V := T17.setTop (mkF m 29 #[.val (.int xn), .val (.int xa), .val (.int p0), .val (.int p1), .val (.int p2), .val (.int (2 : Int32)), .val (.int av), .val (.int (own_pick p0)), .unset, .unset, .unset, .unset, .unset, .unset] [])) (fun tgt k => ?_) ?_
    · show Steps p.tables e below (T17.setTop (mkF m 27 #[.val (.int xn), .val (.int xa), .val (.int p0), .val (.int p1), .val (.int p2), .val (.int (2 : Int32)), .val (.int av), .unset, .unset, .unset, .unset, .unset, .unset, .unset] [(.int (own_pick p0))])) tgt
      refine XS.istore X17.here hx rfl (hb hby at_27) rfl (l' := #[.val (.int xn), .val (.int xa), .val (.int p0), .val (.int p1), .val (.int p2), .val (.int (2 : Int32)), .val (.int av), .val (.int (own_pick p0)), .unset, .unset, .unset, .unset, .unset, .unset]) rfl ?_
      exact k
    obtain ⟨v0, hv0⟩ : ∃ z : Int32, z = (own_pick p0) := ⟨_, rfl⟩
    rw [← hv0]
    have v0b : v0.toInt8.toInt32 = v0 := by rw [hv0]; exact own_pick8 p0
    refine own_st (V := T17.setTop (mkF m 30 #[.val (.int xn), .val (.int xa), .val (.int p0), .val (.int p1), .val (.int p2), .val (.int (2 : Int32)), .val (.int av), .val (.int v0), .unset, .unset, .unset, .unset, .unset, .unset] [(.int p1)])) (fun tgt k => ?_) ?_
    · show Steps p.tables e below (T17.setTop (mkF m 29 #[.val (.int xn), .val (.int xa), .val (.int p0), .val (.int p1), .val (.int p2), .val (.int (2 : Int32)), .val (.int av), .val (.int v0), .unset, .unset, .unset, .unset, .unset, .unset] [])) tgt
      refine XS.iloadN X17.here hx rfl (hb hby at_29) rfl ?_
      exact k
    obtain ⟨_, _, ⟨T18, L18, k18, n18⟩, -, X18, ⟨Lc18, hQ18, l18, y18, z18⟩, st18⟩ := Jvm.LawKit.callS X17 hx (y := (⟨"com/example/tidewatch/tidewatch/io/DecimalSkipSignPinLaw", "pick", "(I)I"⟩ : MethodName)) hown (mvT hZ (hw _ (List.mem_of_getElem? (i := 0) rfl))) (mvT hZ (hw _ (List.mem_of_getElem? (i := 1) rfl))) (mvT hZ (hw _ (List.mem_of_getElem? (i := 2) rfl))) (mvT hZ (hw _ (List.mem_of_getElem? (i := 3) rfl))) (by decide) (backOf (W := 0) (rm1 l Z a0 hw [] p1 h0 n0 Z0 ) hZ (hw _ (List.mem_of_getElem? (i := 3) rfl)) (hw _ (List.mem_of_getElem? (i := 2) rfl)) (by decide) (by decide)) (g := (mkF m 30 #[.val (.int xn), .val (.int xa), .val (.int p0), .val (.int p1), .val (.int p2), .val (.int (2 : Int32)), .val (.int av), .val (.int v0), .unset, .unset, .unset, .unset, .unset, .unset] [(.int p1)])) rfl (by rw [hml]; rfl) (argsL := [(.int p1)]) (rest := []) (lenOf pd_0_0 rfl) rfl (by show 2 * 0 + _ ≤ _; exact Nat.le_of_eq rfl) (hb hby at_30) (fun _ _ => ⟨rfl, K17, (by decide : 0 + 0 ≤ _), (by decide : 0 + 0 ≤ _)⟩)
    dsimp only [Pt.U, Pt.locs, Pt.cells, Pt.slots] at X18 l18 y18 z18 st18 hQ18
    subst l18 y18 z18
    obtain ⟨rfl, N18q, K18⟩ := hQ18
    have N18 := Fr.app N17 N18q
    refine own_st st18 ?_
    show own_Go p e below _ (T18.setTop (mkF m 33 #[.val (.int xn), .val (.int xa), .val (.int p0), .val (.int p1), .val (.int p2), .val (.int (2 : Int32)), .val (.int av), .val (.int v0), .unset, .unset, .unset, .unset, .unset, .unset] [(.int (own_pick p1))]))
    refine own_st (V := T18.setTop (mkF m 35 #[.val (.int xn), .val (.int xa), .val (.int p0), .val (.int p1), .val (.int p2), .val (.int (2 : Int32)), .val (.int av), .val (.int v0), .val (.int (own_pick p1)), .unset, .unset, .unset, .unset, .unset] [])) (fun tgt k => ?_) ?_
    · show Steps p.tables e below (T18.setTop (mkF m 33 #[.val (.int xn), .val (.int xa), .val (.int p0), .val (.int p1), .val (.int p2), .val (.int (2 : Int32)), .val (.int av), .val (.int v0), .unset, .unset, .unset, .unset, .unset, .unset] [(.int (own_pick p1))])) tgt
      refine XS.istore X18.here hx rfl (hb hby at_33) rfl (l' := #[.val (.int xn), .val (.int xa), .val (.int p0), .val (.int p1), .val (.int p2), .val (.int (2 : Int32)), .val (.int av), .val (.int v0), .val (.int (own_pick p1)), .unset, .unset, .unset, .unset, .unset]) rfl ?_
      exact k
    obtain ⟨v1, hv1⟩ : ∃ z : Int32, z = (own_pick p1) := ⟨_, rfl⟩
    rw [← hv1]
    have v1b : v1.toInt8.toInt32 = v1 := by rw [hv1]; exact own_pick8 p1
    refine own_st (V := T18.setTop (mkF m 37 #[.val (.int xn), .val (.int xa), .val (.int p0), .val (.int p1), .val (.int p2), .val (.int (2 : Int32)), .val (.int av), .val (.int v0), .val (.int v1), .unset, .unset, .unset, .unset, .unset] [(.int p2)])) (fun tgt k => ?_) ?_
    · show Steps p.tables e below (T18.setTop (mkF m 35 #[.val (.int xn), .val (.int xa), .val (.int p0), .val (.int p1), .val (.int p2), .val (.int (2 : Int32)), .val (.int av), .val (.int v0), .val (.int v1), .unset, .unset, .unset, .unset, .unset] [])) tgt
      refine XS.iload X18.here hx rfl (hb hby at_35) rfl ?_
      exact k
    obtain ⟨_, _, ⟨T19, L19, k19, n19⟩, -, X19, ⟨Lc19, hQ19, l19, y19, z19⟩, st19⟩ := Jvm.LawKit.callS X18 hx (y := (⟨"com/example/tidewatch/tidewatch/io/DecimalSkipSignPinLaw", "pick", "(I)I"⟩ : MethodName)) hown (mvT hZ (hw _ (List.mem_of_getElem? (i := 0) rfl))) (mvT hZ (hw _ (List.mem_of_getElem? (i := 1) rfl))) (mvT hZ (hw _ (List.mem_of_getElem? (i := 2) rfl))) (mvT hZ (hw _ (List.mem_of_getElem? (i := 3) rfl))) (by decide) (backOf (W := 0) (rm1 l Z a0 hw [] p2 h0 n0 Z0 ) hZ (hw _ (List.mem_of_getElem? (i := 3) rfl)) (hw _ (List.mem_of_getElem? (i := 2) rfl)) (by decide) (by decide)) (g := (mkF m 37 #[.val (.int xn), .val (.int xa), .val (.int p0), .val (.int p1), .val (.int p2), .val (.int (2 : Int32)), .val (.int av), .val (.int v0), .val (.int v1), .unset, .unset, .unset, .unset, .unset] [(.int p2)])) rfl (by rw [hml]; rfl) (argsL := [(.int p2)]) (rest := []) (lenOf pd_0_0 rfl) rfl (by show 2 * 0 + _ ≤ _; exact Nat.le_of_eq rfl) (hb hby at_37) (fun _ _ => ⟨rfl, K18, (by decide : 0 + 0 ≤ _), (by decide : 0 + 0 ≤ _)⟩)
    dsimp only [Pt.U, Pt.locs, Pt.cells, Pt.slots] at X19 l19 y19 z19 st19 hQ19
    subst l19 y19 z19
    obtain ⟨rfl, N19q, K19⟩ := hQ19
    have N19 := Fr.app N18 N19q
    refine own_st st19 ?_
    show own_Go p e below _ (T19.setTop (mkF m 40 #[.val (.int xn), .val (.int xa), .val (.int p0), .val (.int p1), .val (.int p2), .val (.int (2 : Int32)), .val (.int av), .val (.int v0), .val (.int v1), .unset, .unset, .unset, .unset, .unset] [(.int (own_pick p2))]))
    refine own_st (V := T19.setTop (mkF m 42 #[.val (.int xn), .val (.int xa), .val (.int p0), .val (.int p1), .val (.int p2), .val (.int (2 : Int32)), .val (.int av), .val (.int v0), .val (.int v1), .val (.int (own_pick p2)), .unset, .unset, .unset, .unset] [])) (fun tgt k => ?_) ?_
    · show Steps p.tables e below (T19.setTop (mkF m 40 #[.val (.int xn), .val (.int xa), .val (.int p0), .val (.int p1), .val (.int p2), .val (.int (2 : Int32)), .val (.int av), .val (.int v0), .val (.int v1), .unset, .unset, .unset, .unset, .unset] [(.int (own_pick p2))])) tgt
      refine XS.istore X19.here hx rfl (hb hby at_40) rfl (l' := #[.val (.int xn), .val (.int xa), .val (.int p0), .val (.int p1), .val (.int p2), .val (.int (2 : Int32)), .val (.int av), .val (.int v0), .val (.int v1), .val (.int (own_pick p2)), .unset, .unset, .unset, .unset]) rfl ?_
      exact k
    obtain ⟨v2, hv2⟩ : ∃ z : Int32, z = (own_pick p2) := ⟨_, rfl⟩
    rw [← hv2]
    have v2b : v2.toInt8.toInt32 = v2 := by rw [hv2]; exact own_pick8 p2
    refine own_st (V := T19.setTop (mkF m 44 #[.val (.int xn), .val (.int xa), .val (.int p0), .val (.int p1), .val (.int p2), .val (.int (2 : Int32)), .val (.int av), .val (.int v0), .val (.int v1), .val (.int v2), .unset, .unset, .unset, .unset] [(.int (2 : Int32))])) (fun tgt k => ?_) ?_
    · show Steps p.tables e below (T19.setTop (mkF m 42 #[.val (.int xn), .val (.int xa), .val (.int p0), .val (.int p1), .val (.int p2), .val (.int (2 : Int32)), .val (.int av), .val (.int v0), .val (.int v1), .val (.int v2), .unset, .unset, .unset, .unset] [])) tgt
      refine XS.iload X19.here hx rfl (hb hby at_42) rfl ?_
      exact k
    obtain ⟨T20, h20, c20, X20, e20, E20, A20, st20⟩ := own_newarr X19 hx hZ (hw _ (List.mem_of_getElem? (i := 4) rfl)) K19 (g := (mkF m 44 #[.val (.int xn), .val (.int xa), .val (.int p0), .val (.int p1), .val (.int p2), .val (.int (2 : Int32)), .val (.int av), .val (.int v0), .val (.int v1), .val (.int v2), .unset, .unset, .unset, .unset] [(.int (2 : Int32))])) rfl (hb hby at_44) rfl (k := 2) rfl (cap := 2) (by decide) (by decide) (by decide) (by decide)
    obtain ⟨ca, g20⟩ : ∃ z, z = h0.size := ⟨_, rfl⟩
    rw [← g20] at A20 st20
    have g_ca : n0 ≤ ca := Nat.le_trans Z0 (Nat.le_of_eq g20.symm)
    have A_ca_20 : own_Ai Z h20 ca .byte 2 (fun _ => 0) := own_Ai.new A20
    have Zs20 : n0 ≤ h20.size := Nat.le_trans Z0 E20.1
    refine own_st st20 ?_
    show own_Go p e below _ (T20.setTop (mkF m 46 #[.val (.int xn), .val (.int xa), .val (.int p0), .val (.int p1), .val (.int p2), .val (.int (2 : Int32)), .val (.int av), .val (.int v0), .val (.int v1), .val (.int v2), .unset, .unset, .unset, .unset] [(.ref ca)]))
    refine own_st (V := T20.setTop (mkF m 59 #[.val (.int xn), .val (.int xa), .val (.int p0), .val (.int p1), .val (.int p2), .val (.int (2 : Int32)), .val (.int av), .val (.int v0), .val (.int v1), .val (.int v2), .val (.ref ca), .unset, .unset, .unset] [(.int (v0.toInt8.toInt32)), (.int (0 : Int32)), (.ref ca)])) (fun tgt k => ?_) ?_
    · show Steps p.tables e below (T20.setTop (mkF m 46 #[.val (.int xn), .val (.int xa), .val (.int p0), .val (.int p1), .val (.int p2), .val (.int (2 : Int32)), .val (.int av), .val (.int v0), .val (.int v1), .val (.int v2), .unset, .unset, .unset, .unset] [(.ref ca)])) tgt
      refine XS.astore X20.here hx rfl (hb hby at_46) rfl rfl (l' := #[.val (.int xn), .val (.int xa), .val (.int p0), .val (.int p1), .val (.int p2), .val (.int (2 : Int32)), .val (.int av), .val (.int v0), .val (.int v1), .val (.int v2), .val (.ref ca), .unset, .unset, .unset]) rfl ?_
      show Steps p.tables e below (T20.setTop (mkF m 48 #[.val (.int xn), .val (.int xa), .val (.int p0), .val (.int p1), .val (.int p2), .val (.int (2 : Int32)), .val (.int av), .val (.int v0), .val (.int v1), .val (.int v2), .val (.ref ca), .unset, .unset, .unset] [])) tgt
      refine XS.iload X20.here hx rfl (hb hby at_48) rfl ?_
      show Steps p.tables e below (T20.setTop (mkF m 50 #[.val (.int xn), .val (.int xa), .val (.int p0), .val (.int p1), .val (.int p2), .val (.int (2 : Int32)), .val (.int av), .val (.int v0), .val (.int v1), .val (.int v2), .val (.ref ca), .unset, .unset, .unset] [(.int (2 : Int32))])) tgt
      refine XS.ifNo X20.here hx rfl (hb hby at_50) rfl ((if0 _ _).trans (tlt (by decide : (0 : Int32) < (2 : Int32))).2.2.2) ?_
      show Steps p.tables e below (T20.setTop (mkF m 53 #[.val (.int xn), .val (.int xa), .val (.int p0), .val (.int p1), .val (.int p2), .val (.int (2 : Int32)), .val (.int av), .val (.int v0), .val (.int v1), .val (.int v2), .val (.ref ca), .unset, .unset, .unset] [])) tgt
      refine XS.aload X20.here hx rfl (hb hby at_53) rfl rfl ?_
      show Steps p.tables e below (T20.setTop (mkF m 55 #[.val (.int xn), .val (.int xa), .val (.int p0), .val (.int p1), .val (.int p2), .val (.int (2 : Int32)), .val (.int av), .val (.int v0), .val (.int v1), .val (.int v2), .val (.ref ca), .unset, .unset, .unset] [(.ref ca)])) tgt
      refine XS.iconst X20.here hx rfl (hb hby at_55) ?_
      show Steps p.tables e below (T20.setTop (mkF m 56 #[.val (.int xn), .val (.int xa), .val (.int p0), .val (.int p1), .val (.int p2), .val (.int (2 : Int32)), .val (.int av), .val (.int v0), .val (.int v1), .val (.int v2), .val (.ref ca), .unset, .unset, .unset] [(.int (0 : Int32)), (.ref ca)])) tgt
      refine XS.iload X20.here hx rfl (hb hby at_56) rfl ?_
      show Steps p.tables e below (T20.setTop (mkF m 58 #[.val (.int xn), .val (.int xa), .val (.int p0), .val (.int p1), .val (.int p2), .val (.int (2 : Int32)), .val (.int av), .val (.int v0), .val (.int v1), .val (.int v2), .val (.ref ca), .unset, .unset, .unset] [(.int v0), (.int (0 : Int32)), (.ref ca)])) tgt
      refine XS.i2b X20.here hx rfl (hb hby at_58) rfl ?_
      exact k
    obtain ⟨T21, h21, X21, e21, W21, A_ca_21, st21⟩ := own_bastore X20 hx hZ e20 A_ca_20 (j := (0 : Int32)) (k := 0) rfl (by decide) (g := (mkF m 59 #[.val (.int xn), .val (.int xa), .val (.int p0), .val (.int p1), .val (.int p2), .val (.int (2 : Int32)), .val (.int av), .val (.int v0), .val (.int v1), .val (.int v2), .val (.ref ca), .unset, .unset, .unset] [(.int (v0.toInt8.toInt32)), (.int (0 : Int32)), (.ref ca)])) rfl rfl (hb hby at_59)
    have N21 := Fr.snoc X21 N19 g_ca
    have Zs21 : n0 ≤ h21.size := Nat.le_trans Zs20 (Keep.of_wr W21).1
    refine own_st st21 ?_
    show own_Go p e below _ (T21.setTop (mkF m 60 #[.val (.int xn), .val (.int xa), .val (.int p0), .val (.int p1), .val (.int p2), .val (.int (2 : Int32)), .val (.int av), .val (.int v0), .val (.int v1), .val (.int v2), .val (.ref ca), .unset, .unset, .unset] []))
    have Af_ca_22 := A_ca_21
    rw [show (own_up (fun _ => 0) 0 (v0.toInt8.toInt32).toInt8.toInt32) = (own_up (fun _ => 0) 0 v0) from by rw [v0b, v0b]] at Af_ca_22
    refine own_st (V := T21.setTop (mkF m 72 #[.val (.int xn), .val (.int xa), .val (.int p0), .val (.int p1), .val (.int p2), .val (.int (2 : Int32)), .val (.int av), .val (.int v0), .val (.int v1), .val (.int v2), .val (.ref ca), .unset, .unset, .unset] [(.int (v1.toInt8.toInt32)), (.int (1 : Int32)), (.ref ca)])) (fun tgt k => ?_) ?_
    · show Steps p.tables e below (T21.setTop (mkF m 60 #[.val (.int xn), .val (.int xa), .val (.int p0), .val (.int p1), .val (.int p2), .val (.int (2 : Int32)), .val (.int av), .val (.int v0), .val (.int v1), .val (.int v2), .val (.ref ca), .unset, .unset, .unset] [])) tgt
      refine XS.iload X21.here hx rfl (hb hby at_60) rfl ?_
      show Steps p.tables e below (T21.setTop (mkF m 62 #[.val (.int xn), .val (.int xa), .val (.int p0), .val (.int p1), .val (.int p2), .val (.int (2 : Int32)), .val (.int av), .val (.int v0), .val (.int v1), .val (.int v2), .val (.ref ca), .unset, .unset, .unset] [(.int (2 : Int32))])) tgt
      refine XS.iconst X21.here hx rfl (hb hby at_62) ?_
      show Steps p.tables e below (T21.setTop (mkF m 63 #[.val (.int xn), .val (.int xa), .val (.int p0), .val (.int p1), .val (.int p2), .val (.int (2 : Int32)), .val (.int av), .val (.int v0), .val (.int v1), .val (.int v2), .val (.ref ca), .unset, .unset, .unset] [(.int (1 : Int32)), (.int (2 : Int32))])) tgt
      refine XS.icmpNo X21.here hx rfl (hb hby at_63) rfl (tlt (by decide : (1 : Int32) < (2 : Int32))).2.2.2 ?_
      show Steps p.tables e below (T21.setTop (mkF m 66 #[.val (.int xn), .val (.int xa), .val (.int p0), .val (.int p1), .val (.int p2), .val (.int (2 : Int32)), .val (.int av), .val (.int v0), .val (.int v1), .val (.int v2), .val (.ref ca), .unset, .unset, .unset] [])) tgt
      refine XS.aload X21.here hx rfl (hb hby at_66) rfl rfl ?_
      show Steps p.tables e below (T21.setTop (mkF m 68 #[.val (.int xn), .val (.int xa), .val (.int p0), .val (.int p1), .val (.int p2), .val (.int (2 : Int32)), .val (.int av), .val (.int v0), .val (.int v1), .val (.int v2), .val (.ref ca), .unset, .unset, .unset] [(.ref ca)])) tgt
      refine XS.iconst X21.here hx rfl (hb hby at_68) ?_
      show Steps p.tables e below (T21.setTop (mkF m 69 #[.val (.int xn), .val (.int xa), .val (.int p0), .val (.int p1), .val (.int p2), .val (.int (2 : Int32)), .val (.int av), .val (.int v0), .val (.int v1), .val (.int v2), .val (.ref ca), .unset, .unset, .unset] [(.int (1 : Int32)), (.ref ca)])) tgt
      refine XS.iload X21.here hx rfl (hb hby at_69) rfl ?_
      show Steps p.tables e below (T21.setTop (mkF m 71 #[.val (.int xn), .val (.int xa), .val (.int p0), .val (.int p1), .val (.int p2), .val (.int (2 : Int32)), .val (.int av), .val (.int v0), .val (.int v1), .val (.int v2), .val (.ref ca), .unset, .unset, .unset] [(.int v1), (.int (1 : Int32)), (.ref ca)])) tgt
      refine XS.i2b X21.here hx rfl (hb hby at_71) rfl ?_
      exact k
    obtain ⟨T23, h23, X23, e23, W23, A_ca_23, st23⟩ := own_bastore X21 hx hZ e21 Af_ca_22 (j := (1 : Int32)) (k := 1) rfl (by decide) (g := (mkF m 72 #[.val (.int xn), .val (.int xa), .val (.int p0), .val (.int p1), .val (.int p2), .val (.int (2 : Int32)), .val (.int av), .val (.int v0), .val (.int v1), .val (.int v2), .val (.ref ca), .unset, .unset, .unset] [(.int (v1.toInt8.toInt32)), (.int (1 : Int32)), (.ref ca)])) rfl rfl (hb hby at_72)
    have N23 := Fr.snoc X23 N21 g_ca
    have Zs23 : n0 ≤ h23.size := Nat.le_trans Zs21 (Keep.of_wr W23).1
    refine own_st st23 ?_
    show own_Go p e below _ (T23.setTop (mkF m 73 #[.val (.int xn), .val (.int xa), .val (.int p0), .val (.int p1), .val (.int p2), .val (.int (2 : Int32)), .val (.int av), .val (.int v0), .val (.int v1), .val (.int v2), .val (.ref ca), .unset, .unset, .unset] []))
    have Af_ca_24 := A_ca_23
    rw [show (own_up (own_up (fun _ => 0) 0 v0) 1 (v1.toInt8.toInt32).toInt8.toInt32) = (own_up (own_up (fun _ => 0) 0 v0) 1 v1) from by rw [v1b, v1b]] at Af_ca_24
    refine own_st (V := T23.setTop (mkF m 96 #[.val (.int xn), .val (.int xa), .val (.int p0), .val (.int p1), .val (.int p2), .val (.int (2 : Int32)), .val (.int av), .val (.int v0), .val (.int v1), .val (.int v2), .val (.ref ca), .unset, .unset, .unset] [(.int v2), (.int v1), (.int v0), (.int (2 : Int32)), (.int av)])) (fun tgt k => ?_) ?_
    · show Steps p.tables e below (T23.setTop (mkF m 73 #[.val (.int xn), .val (.int xa), .val (.int p0), .val (.int p1), .val (.int p2), .val (.int (2 : Int32)), .val (.int av), .val (.int v0), .val (.int v1), .val (.int v2), .val (.ref ca), .unset, .unset, .unset] [])) tgt
      refine XS.iload X23.here hx rfl (hb hby at_73) rfl ?_
      show Steps p.tables e below (T23.setTop (mkF m 75 #[.val (.int xn), .val (.int xa), .val (.int p0), .val (.int p1), .val (.int p2), .val (.int (2 : Int32)), .val (.int av), .val (.int v0), .val (.int v1), .val (.int v2), .val (.ref ca), .unset, .unset, .unset] [(.int (2 : Int32))])) tgt
      refine XS.iconst X23.here hx rfl (hb hby at_75) ?_
      show Steps p.tables e below (T23.setTop (mkF m 76 #[.val (.int xn), .val (.int xa), .val (.int p0), .val (.int p1), .val (.int p2), .val (.int (2 : Int32)), .val (.int av), .val (.int v0), .val (.int v1), .val (.int v2), .val (.ref ca), .unset, .unset, .unset] [(.int (2 : Int32)), (.int (2 : Int32))])) tgt
      refine XS.icmpYes X23.here hx rfl (pc0 := 76) (pc' := 86) rfl (hb hby at_76) rfl (flt (by decide : ¬ ((2 : Int32) < (2 : Int32)))).2.2.2 (by decide) (by decide) ?_
      show Steps p.tables e below (T23.setTop (mkF m 86 #[.val (.int xn), .val (.int xa), .val (.int p0), .val (.int p1), .val (.int p2), .val (.int (2 : Int32)), .val (.int av), .val (.int v0), .val (.int v1), .val (.int v2), .val (.ref ca), .unset, .unset, .unset] [])) tgt
      refine XS.iload X23.here hx rfl (hb hby at_86) rfl ?_
      show Steps p.tables e below (T23.setTop (mkF m 88 #[.val (.int xn), .val (.int xa), .val (.int p0), .val (.int p1), .val (.int p2), .val (.int (2 : Int32)), .val (.int av), .val (.int v0), .val (.int v1), .val (.int v2), .val (.ref ca), .unset, .unset, .unset] [(.int av)])) tgt
      refine XS.iload X23.here hx rfl (hb hby at_88) rfl ?_
      show Steps p.tables e below (T23.setTop (mkF m 90 #[.val (.int xn), .val (.int xa), .val (.int p0), .val (.int p1), .val (.int p2), .val (.int (2 : Int32)), .val (.int av), .val (.int v0), .val (.int v1), .val (.int v2), .val (.ref ca), .unset, .unset, .unset] [(.int (2 : Int32)), (.int av)])) tgt
      refine XS.iload X23.here hx rfl (hb hby at_90) rfl ?_
      show Steps p.tables e below (T23.setTop (mkF m 92 #[.val (.int xn), .val (.int xa), .val (.int p0), .val (.int p1), .val (.int p2), .val (.int (2 : Int32)), .val (.int av), .val (.int v0), .val (.int v1), .val (.int v2), .val (.ref ca), .unset, .unset, .unset] [(.int v0), (.int (2 : Int32)), (.int av)])) tgt
      refine XS.iload X23.here hx rfl (hb hby at_92) rfl ?_
      show Steps p.tables e below (T23.setTop (mkF m 94 #[.val (.int xn), .val (.int xa), .val (.int p0), .val (.int p1), .val (.int p2), .val (.int (2 : Int32)), .val (.int av), .val (.int v0), .val (.int v1), .val (.int v2), .val (.ref ca), .unset, .unset, .unset] [(.int v1), (.int v0), (.int (2 : Int32)), (.int av)])) tgt
      refine XS.iload X23.here hx rfl (hb hby at_94) rfl ?_
      exact k
    obtain ⟨_, _, ⟨T25, L25, k25, n25⟩, -, X25, ⟨Lc25, hQ25, l25, y25, z25⟩, st25⟩ := Jvm.LawKit.callS X23 hx (y := (⟨"com/example/tidewatch/tidewatch/io/DecimalSkipSignPinLaw", "drawnAt", "(IIIII)I"⟩ : MethodName)) hown (mvT hZ (hw _ (List.mem_of_getElem? (i := 5) rfl))) (mvT hZ (hw _ (List.mem_of_getElem? (i := 6) rfl))) (mvT hZ (hw _ (List.mem_of_getElem? (i := 2) rfl))) (mvT hZ (hw _ (List.mem_of_getElem? (i := 7) rfl))) (by decide) (backOf (W := 0) (rm2 l Z a0 hw [] av (2 : Int32) v0 v1 v2 h23 n0 Zs23 ) hZ (hw _ (List.mem_of_getElem? (i := 7) rfl)) (hw _ (List.mem_of_getElem? (i := 2) rfl)) (by decide) (by decide)) (g := (mkF m 96 #[.val (.int xn), .val (.int xa), .val (.int p0), .val (.int p1), .val (.int p2), .val (.int (2 : Int32)), .val (.int av), .val (.int v0), .val (.int v1), .val (.int v2), .val (.ref ca), .unset, .unset, .unset] [(.int v2), (.int v1), (.int v0), (.int (2 : Int32)), (.int av)])) rfl (by rw [hml]; rfl) (argsL := [(.int av), (.int (2 : Int32)), (.int v0), (.int v1), (.int v2)]) (rest := []) (lenOf pd_0_1 rfl) rfl (by show 2 * 0 + _ ≤ _; exact Nat.le_of_eq rfl) (hb hby at_96) (fun _ _ => ⟨rfl, e23, (by decide : 1 + 0 ≤ _), (by decide : 2 + 0 ≤ _)⟩)
    dsimp only [Pt.U, Pt.locs, Pt.cells, Pt.slots] at X25 l25 y25 z25 st25 hQ25
    subst l25 y25 z25
    obtain ⟨rfl, N25q, K25⟩ := hQ25
    have N25 := Fr.app N23 N25q
    refine own_st st25 ?_
    show own_Go p e below _ (T25.setTop (mkF m 99 #[.val (.int xn), .val (.int xa), .val (.int p0), .val (.int p1), .val (.int p2), .val (.int (2 : Int32)), .val (.int av), .val (.int v0), .val (.int v1), .val (.int v2), .val (.ref ca), .unset, .unset, .unset] [(.int (own_drawn av (2 : Int32) v0 v1 v2))]))
    refine own_st (V := T25.setTop (mkF m 101 #[.val (.int xn), .val (.int xa), .val (.int p0), .val (.int p1), .val (.int p2), .val (.int (2 : Int32)), .val (.int av), .val (.int v0), .val (.int v1), .val (.int v2), .val (.ref ca), .val (.int (own_drawn av (2 : Int32) v0 v1 v2)), .unset, .unset] [])) (fun tgt k => ?_) ?_
    · show Steps p.tables e below (T25.setTop (mkF m 99 #[.val (.int xn), .val (.int xa), .val (.int p0), .val (.int p1), .val (.int p2), .val (.int (2 : Int32)), .val (.int av), .val (.int v0), .val (.int v1), .val (.int v2), .val (.ref ca), .unset, .unset, .unset] [(.int (own_drawn av (2 : Int32) v0 v1 v2))])) tgt
      refine XS.istore X25.here hx rfl (hb hby at_99) rfl (l' := #[.val (.int xn), .val (.int xa), .val (.int p0), .val (.int p1), .val (.int p2), .val (.int (2 : Int32)), .val (.int av), .val (.int v0), .val (.int v1), .val (.int v2), .val (.ref ca), .val (.int (own_drawn av (2 : Int32) v0 v1 v2)), .unset, .unset]) rfl ?_
      exact k
    obtain ⟨dw, hdw⟩ : ∃ z : Int32, z = (own_drawn av (2 : Int32) v0 v1 v2) := ⟨_, rfl⟩
    rw [← hdw]
    refine own_st (V := T25.setTop (mkF m 105 #[.val (.int xn), .val (.int xa), .val (.int p0), .val (.int p1), .val (.int p2), .val (.int (2 : Int32)), .val (.int av), .val (.int v0), .val (.int v1), .val (.int v2), .val (.ref ca), .val (.int dw), .unset, .unset] [(.int (43 : Int32)), (.int dw)])) (fun tgt k => ?_) ?_
    · show Steps p.tables e below (T25.setTop (mkF m 101 #[.val (.int xn), .val (.int xa), .val (.int p0), .val (.int p1), .val (.int p2), .val (.int (2 : Int32)), .val (.int av), .val (.int v0), .val (.int v1), .val (.int v2), .val (.ref ca), .val (.int dw), .unset, .unset] [])) tgt
      refine XS.iload X25.here hx rfl (hb hby at_101) rfl ?_
      show Steps p.tables e below (T25.setTop (mkF m 103 #[.val (.int xn), .val (.int xa), .val (.int p0), .val (.int p1), .val (.int p2), .val (.int (2 : Int32)), .val (.int av), .val (.int v0), .val (.int v1), .val (.int v2), .val (.ref ca), .val (.int dw), .unset, .unset] [(.int dw)])) tgt
      refine XS.bipush X25.here hx rfl (hb hby at_103) ?_
      exact k
    obtain ⟨xe, hxe⟩ : ∃ z : Int32, z = (if dw = (43 : Int32) then (av + (1 : Int32)) else (if dw = (45 : Int32) then (av + (1 : Int32)) else av)) := ⟨_, rfl⟩
    refine own_st (V := T25.setTop (mkF m 124 #[.val (.int xn), .val (.int xa), .val (.int p0), .val (.int p1), .val (.int p2), .val (.int (2 : Int32)), .val (.int av), .val (.int v0), .val (.int v1), .val (.int v2), .val (.ref ca), .val (.int dw), .unset, .unset] [(.int xe)])) (fun tgt k => ?_) ?_
    · skip
      by_cases hc105_2 : dw = (43 : Int32)
      · skip
        rw [if_pos hc105_2] at hxe
        show Steps p.tables e below (T25.setTop (mkF m 105 #[.val (.int xn), .val (.int xa), .val (.int p0), .val (.int p1), .val (.int p2), .val (.int (2 : Int32)), .val (.int av), .val (.int v0), .val (.int v1), .val (.int v2), .val (.ref ca), .val (.int dw), .unset, .unset] [(.int (43 : Int32)), (.int dw)])) tgt
        refine XS.icmpYes X25.here hx rfl (pc0 := 105) (pc' := 115) rfl (hb hby at_105) rfl (teq hc105_2).1 (by decide) (by decide) ?_
        show Steps p.tables e below (T25.setTop (mkF m 115 #[.val (.int xn), .val (.int xa), .val (.int p0), .val (.int p1), .val (.int p2), .val (.int (2 : Int32)), .val (.int av), .val (.int v0), .val (.int v1), .val (.int v2), .val (.ref ca), .val (.int dw), .unset, .unset] [])) tgt
        refine XS.iload X25.here hx rfl (hb hby at_115) rfl ?_
        show Steps p.tables e below (T25.setTop (mkF m 117 #[.val (.int xn), .val (.int xa), .val (.int p0), .val (.int p1), .val (.int p2), .val (.int (2 : Int32)), .val (.int av), .val (.int v0), .val (.int v1), .val (.int v2), .val (.ref ca), .val (.int dw), .unset, .unset] [(.int av)])) tgt
        refine XS.iconst X25.here hx rfl (hb hby at_117) ?_
        show Steps p.tables e below (T25.setTop (mkF m 118 #[.val (.int xn), .val (.int xa), .val (.int p0), .val (.int p1), .val (.int p2), .val (.int (2 : Int32)), .val (.int av), .val (.int v0), .val (.int v1), .val (.int v2), .val (.ref ca), .val (.int dw), .unset, .unset] [(.int (1 : Int32)), (.int av)])) tgt
        refine XS.iadd X25.here hx rfl (hb hby at_118) rfl ?_
        show Steps p.tables e below (T25.setTop (mkF m 119 #[.val (.int xn), .val (.int xa), .val (.int p0), .val (.int p1), .val (.int p2), .val (.int (2 : Int32)), .val (.int av), .val (.int v0), .val (.int v1), .val (.int v2), .val (.ref ca), .val (.int dw), .unset, .unset] [(.int (av + (1 : Int32)))])) tgt
        refine XS.goto X25.here hx rfl (pc0 := 119) (pc' := 124) rfl (hb hby at_119) (by decide) (by decide) ?_
        rw [hxe] at k
        exact k
      · skip
        rw [if_neg hc105_2] at hxe
        show Steps p.tables e below (T25.setTop (mkF m 105 #[.val (.int xn), .val (.int xa), .val (.int p0), .val (.int p1), .val (.int p2), .val (.int (2 : Int32)), .val (.int av), .val (.int v0), .val (.int v1), .val (.int v2), .val (.ref ca), .val (.int dw), .unset, .unset] [(.int (43 : Int32)), (.int dw)])) tgt
        refine XS.icmpNo X25.here hx rfl (hb hby at_105) rfl (feq hc105_2).1 ?_
        show Steps p.tables e below (T25.setTop (mkF m 108 #[.val (.int xn), .val (.int xa), .val (.int p0), .val (.int p1), .val (.int p2), .val (.int (2 : Int32)), .val (.int av), .val (.int v0), .val (.int v1), .val (.int v2), .val (.ref ca), .val (.int dw), .unset, .unset] [])) tgt
        refine XS.iload X25.here hx rfl (hb hby at_108) rfl ?_
        show Steps p.tables e below (T25.setTop (mkF m 110 #[.val (.int xn), .val (.int xa), .val (.int p0), .val (.int p1), .val (.int p2), .val (.int (2 : Int32)), .val (.int av), .val (.int v0), .val (.int v1), .val (.int v2), .val (.ref ca), .val (.int dw), .unset, .unset] [(.int dw)])) tgt
        refine XS.bipush X25.here hx rfl (hb hby at_110) ?_
        by_cases hc112 : dw = (45 : Int32)
        · skip
          rw [if_pos hc112] at hxe
          show Steps p.tables e below (T25.setTop (mkF m 112 #[.val (.int xn), .val (.int xa), .val (.int p0), .val (.int p1), .val (.int p2), .val (.int (2 : Int32)), .val (.int av), .val (.int v0), .val (.int v1), .val (.int v2), .val (.ref ca), .val (.int dw), .unset, .unset] [(.int (45 : Int32)), (.int dw)])) tgt
          refine XS.icmpNo X25.here hx rfl (hb hby at_112) rfl (teq hc112).2 ?_
          show Steps p.tables e below (T25.setTop (mkF m 115 #[.val (.int xn), .val (.int xa), .val (.int p0), .val (.int p1), .val (.int p2), .val (.int (2 : Int32)), .val (.int av), .val (.int v0), .val (.int v1), .val (.int v2), .val (.ref ca), .val (.int dw), .unset, .unset] [])) tgt
          refine XS.iload X25.here hx rfl (hb hby at_115) rfl ?_
          show Steps p.tables e below (T25.setTop (mkF m 117 #[.val (.int xn), .val (.int xa), .val (.int p0), .val (.int p1), .val (.int p2), .val (.int (2 : Int32)), .val (.int av), .val (.int v0), .val (.int v1), .val (.int v2), .val (.ref ca), .val (.int dw), .unset, .unset] [(.int av)])) tgt
          refine XS.iconst X25.here hx rfl (hb hby at_117) ?_
          show Steps p.tables e below (T25.setTop (mkF m 118 #[.val (.int xn), .val (.int xa), .val (.int p0), .val (.int p1), .val (.int p2), .val (.int (2 : Int32)), .val (.int av), .val (.int v0), .val (.int v1), .val (.int v2), .val (.ref ca), .val (.int dw), .unset, .unset] [(.int (1 : Int32)), (.int av)])) tgt
          refine XS.iadd X25.here hx rfl (hb hby at_118) rfl ?_
          show Steps p.tables e below (T25.setTop (mkF m 119 #[.val (.int xn), .val (.int xa), .val (.int p0), .val (.int p1), .val (.int p2), .val (.int (2 : Int32)), .val (.int av), .val (.int v0), .val (.int v1), .val (.int v2), .val (.ref ca), .val (.int dw), .unset, .unset] [(.int (av + (1 : Int32)))])) tgt
          refine XS.goto X25.here hx rfl (pc0 := 119) (pc' := 124) rfl (hb hby at_119) (by decide) (by decide) ?_
          rw [hxe] at k
          exact k
        · skip
          rw [if_neg hc112] at hxe
          show Steps p.tables e below (T25.setTop (mkF m 112 #[.val (.int xn), .val (.int xa), .val (.int p0), .val (.int p1), .val (.int p2), .val (.int (2 : Int32)), .val (.int av), .val (.int v0), .val (.int v1), .val (.int v2), .val (.ref ca), .val (.int dw), .unset, .unset] [(.int (45 : Int32)), (.int dw)])) tgt
          refine XS.icmpYes X25.here hx rfl (pc0 := 112) (pc' := 122) rfl (hb hby at_112) rfl (feq hc112).2 (by decide) (by decide) ?_
          show Steps p.tables e below (T25.setTop (mkF m 122 #[.val (.int xn), .val (.int xa), .val (.int p0), .val (.int p1), .val (.int p2), .val (.int (2 : Int32)), .val (.int av), .val (.int v0), .val (.int v1), .val (.int v2), .val (.ref ca), .val (.int dw), .unset, .unset] [])) tgt
          refine XS.iload X25.here hx rfl (hb hby at_122) rfl ?_
          rw [hxe] at k
          exact k
    refine own_st (V := T25.setTop (mkF m 130 #[.val (.int xn), .val (.int xa), .val (.int p0), .val (.int p1), .val (.int p2), .val (.int (2 : Int32)), .val (.int av), .val (.int v0), .val (.int v1), .val (.int v2), .val (.ref ca), .val (.int dw), .val (.int xe), .unset] [(.int av), (.ref ca)])) (fun tgt k => ?_) ?_
    · show Steps p.tables e below (T25.setTop (mkF m 124 #[.val (.int xn), .val (.int xa), .val (.int p0), .val (.int p1), .val (.int p2), .val (.int (2 : Int32)), .val (.int av), .val (.int v0), .val (.int v1), .val (.int v2), .val (.ref ca), .val (.int dw), .unset, .unset] [(.int xe)])) tgt
      refine XS.istore X25.here hx rfl (hb hby at_124) rfl (l' := #[.val (.int xn), .val (.int xa), .val (.int p0), .val (.int p1), .val (.int p2), .val (.int (2 : Int32)), .val (.int av), .val (.int v0), .val (.int v1), .val (.int v2), .val (.ref ca), .val (.int dw), .val (.int xe), .unset]) rfl ?_
      show Steps p.tables e below (T25.setTop (mkF m 126 #[.val (.int xn), .val (.int xa), .val (.int p0), .val (.int p1), .val (.int p2), .val (.int (2 : Int32)), .val (.int av), .val (.int v0), .val (.int v1), .val (.int v2), .val (.ref ca), .val (.int dw), .val (.int xe), .unset] [])) tgt
      refine XS.aload X25.here hx rfl (hb hby at_126) rfl rfl ?_
      show Steps p.tables e below (T25.setTop (mkF m 128 #[.val (.int xn), .val (.int xa), .val (.int p0), .val (.int p1), .val (.int p2), .val (.int (2 : Int32)), .val (.int av), .val (.int v0), .val (.int v1), .val (.int v2), .val (.ref ca), .val (.int dw), .val (.int xe), .unset] [(.ref ca)])) tgt
      refine XS.iload X25.here hx rfl (hb hby at_128) rfl ?_
      exact k
    obtain ⟨_, _, ⟨T26, L26, k26, n26⟩, -, X26, ⟨Lc26, hQ26, l26, y26, z26⟩, st26⟩ := Jvm.LawKit.callS X25 hx (y := (⟨"com/example/tidewatch/tidewatch/io/Decimal", "skipSign", "([BI)I"⟩ : MethodName)) hown (mvT hZ (hw _ (List.mem_of_getElem? (i := 8) rfl))) (mvT hZ (hw _ (List.mem_of_getElem? (i := 9) rfl))) (mvT hZ (hw _ (List.mem_of_getElem? (i := 10) rfl))) (mvT hZ (hw _ (List.mem_of_getElem? (i := 11) rfl))) (by decide) (backOf (W := 0) (rm3 l Z a0 hw [] ca av (2 : Int32) 2 (own_up (own_up (fun _ => 0) 0 v0) 1 v1) h23 n0 Zs23 Af_ca_24 (by decide) hav0) hZ (hw _ (List.mem_of_getElem? (i := 11) rfl)) (hw _ (List.mem_of_getElem? (i := 10) rfl)) (by decide) (by decide)) (g := (mkF m 130 #[.val (.int xn), .val (.int xa), .val (.int p0), .val (.int p1), .val (.int p2), .val (.int (2 : Int32)), .val (.int av), .val (.int v0), .val (.int v1), .val (.int v2), .val (.ref ca), .val (.int dw), .val (.int xe), .unset] [(.int av), (.ref ca)])) rfl (by rw [hml]; rfl) (argsL := [(.ref ca), (.int av)]) (rest := []) (lenOf pd_0_2 rfl) rfl (by show 2 * 0 + _ ≤ _; exact Nat.le_of_eq rfl) (hb hby at_130) (fun _ _ => ⟨rfl, K25, (by decide : 1 + 0 ≤ _), (by decide : 2 + 0 ≤ _)⟩)
    dsimp only [Pt.U, Pt.locs, Pt.cells, Pt.slots] at X26 l26 y26 z26 st26 hQ26
    subst l26 y26 z26
    obtain ⟨rfl, N26q, K26⟩ := hQ26
    have N26 := Fr.app N25 N26q
    refine own_st st26 ?_
    show own_Go p e below _ (T26.setTop (mkF m 133 #[.val (.int xn), .val (.int xa), .val (.int p0), .val (.int p1), .val (.int p2), .val (.int (2 : Int32)), .val (.int av), .val (.int v0), .val (.int v1), .val (.int v2), .val (.ref ca), .val (.int dw), .val (.int xe), .unset] [(.int (own_skip (own_up (own_up (fun _ => 0) 0 v0) 1 v1) av (2 : Int32)))]))
    refine own_st (V := T26.setTop (mkF m 147 #[.val (.int xn), .val (.int xa), .val (.int p0), .val (.int p1), .val (.int p2), .val (.int (2 : Int32)), .val (.int av), .val (.int v0), .val (.int v1), .val (.int v2), .val (.ref ca), .val (.int dw), .val (.int xe), .val (.int (own_skip (own_up (own_up (fun _ => 0) 0 v0) 1 v1) av (2 : Int32)))] [(.int (1 : Int32))])) (fun tgt k => ?_) ?_
    · show Steps p.tables e below (T26.setTop (mkF m 133 #[.val (.int xn), .val (.int xa), .val (.int p0), .val (.int p1), .val (.int p2), .val (.int (2 : Int32)), .val (.int av), .val (.int v0), .val (.int v1), .val (.int v2), .val (.ref ca), .val (.int dw), .val (.int xe), .unset] [(.int (own_skip (own_up (own_up (fun _ => 0) 0 v0) 1 v1) av (2 : Int32)))])) tgt
      refine XS.istore X26.here hx rfl (hb hby at_133) rfl (l' := #[.val (.int xn), .val (.int xa), .val (.int p0), .val (.int p1), .val (.int p2), .val (.int (2 : Int32)), .val (.int av), .val (.int v0), .val (.int v1), .val (.int v2), .val (.ref ca), .val (.int dw), .val (.int xe), .val (.int (own_skip (own_up (own_up (fun _ => 0) 0 v0) 1 v1) av (2 : Int32)))]) rfl ?_
      show Steps p.tables e below (T26.setTop (mkF m 135 #[.val (.int xn), .val (.int xa), .val (.int p0), .val (.int p1), .val (.int p2), .val (.int (2 : Int32)), .val (.int av), .val (.int v0), .val (.int v1), .val (.int v2), .val (.ref ca), .val (.int dw), .val (.int xe), .val (.int (own_skip (own_up (own_up (fun _ => 0) 0 v0) 1 v1) av (2 : Int32)))] [])) tgt
      refine XS.iload X26.here hx rfl (hb hby at_135) rfl ?_
      show Steps p.tables e below (T26.setTop (mkF m 137 #[.val (.int xn), .val (.int xa), .val (.int p0), .val (.int p1), .val (.int p2), .val (.int (2 : Int32)), .val (.int av), .val (.int v0), .val (.int v1), .val (.int v2), .val (.ref ca), .val (.int dw), .val (.int xe), .val (.int (own_skip (own_up (own_up (fun _ => 0) 0 v0) 1 v1) av (2 : Int32)))] [(.int (own_skip (own_up (own_up (fun _ => 0) 0 v0) 1 v1) av (2 : Int32)))])) tgt
      refine XS.iload X26.here hx rfl (hb hby at_137) rfl ?_
      show Steps p.tables e below (T26.setTop (mkF m 139 #[.val (.int xn), .val (.int xa), .val (.int p0), .val (.int p1), .val (.int p2), .val (.int (2 : Int32)), .val (.int av), .val (.int v0), .val (.int v1), .val (.int v2), .val (.ref ca), .val (.int dw), .val (.int xe), .val (.int (own_skip (own_up (own_up (fun _ => 0) 0 v0) 1 v1) av (2 : Int32)))] [(.int xe), (.int (own_skip (own_up (own_up (fun _ => 0) 0 v0) 1 v1) av (2 : Int32)))])) tgt
      refine XS.icmpNo X26.here hx rfl (hb hby at_139) rfl (teq (by rw [hxe, hdw]; exact own_fin _ _ _ _ _ _ hav0 (by decide) (by first | exact fun _ => rfl | exact fun h => absurd h (by decide)) (by first | exact fun _ => rfl | exact fun h => absurd h (by decide)) (by first | exact fun _ => rfl | exact fun h => absurd h (by decide)))).2 ?_
      show Steps p.tables e below (T26.setTop (mkF m 142 #[.val (.int xn), .val (.int xa), .val (.int p0), .val (.int p1), .val (.int p2), .val (.int (2 : Int32)), .val (.int av), .val (.int v0), .val (.int v1), .val (.int v2), .val (.ref ca), .val (.int dw), .val (.int xe), .val (.int (own_skip (own_up (own_up (fun _ => 0) 0 v0) 1 v1) av (2 : Int32)))] [])) tgt
      refine XS.iconst X26.here hx rfl (hb hby at_142) ?_
      show Steps p.tables e below (T26.setTop (mkF m 143 #[.val (.int xn), .val (.int xa), .val (.int p0), .val (.int p1), .val (.int p2), .val (.int (2 : Int32)), .val (.int av), .val (.int v0), .val (.int v1), .val (.int v2), .val (.ref ca), .val (.int dw), .val (.int xe), .val (.int (own_skip (own_up (own_up (fun _ => 0) 0 v0) 1 v1) av (2 : Int32)))] [(.int (1 : Int32))])) tgt
      refine XS.goto X26.here hx rfl (pc0 := 143) (pc' := 147) rfl (hb hby at_143) (by decide) (by decide) ?_
      exact k
    refine own_retN X26 hx hlk (t := .boolean) (z' := (1 : Int32)) Bd.returns (by simp) rfl (hb hby at_147) ?_ (by decide) (by decide)
    show Q0 Z xn xa p0 p1 p2 h0 n0 (some (.int (1 : Int32))) T26.heap _
    rw [K26]
    exact ⟨rfl, N26⟩
  · skip
    rw [show (xn &&& (3 : Int32)) = (3 : Int32) from q]
    refine own_st (V := s₁.setTop (mkF m 8 #[.val (.int xn), .val (.int xa), .val (.int p0), .val (.int p1), .val (.int p2), .val (.int (3 : Int32)), .unset, .unset, .unset, .unset, .unset, .unset, .unset, .unset] [(.int (xn &&& (4 : Int32)))])) (fun tgt k => ?_) ?_
    · show Steps p.tables e below (s₁.setTop (mkF m 5 #[.val (.int xn), .val (.int xa), .val (.int p0), .val (.int p1), .val (.int p2), .val (.int (3 : Int32)), .unset, .unset, .unset, .unset, .unset, .unset, .unset, .unset] [])) tgt
      refine XS.iloadN X0.here hx rfl (hb hby at_5) rfl ?_
      show Steps p.tables e below (s₁.setTop (mkF m 6 #[.val (.int xn), .val (.int xa), .val (.int p0), .val (.int p1), .val (.int p2), .val (.int (3 : Int32)), .unset, .unset, .unset, .unset, .unset, .unset, .unset, .unset] [(.int xn)])) tgt
      refine XS.iconst X0.here hx rfl (hb hby at_6) ?_
      show Steps p.tables e below (s₁.setTop (mkF m 7 #[.val (.int xn), .val (.int xa), .val (.int p0), .val (.int p1), .val (.int p2), .val (.int (3 : Int32)), .unset, .unset, .unset, .unset, .unset, .unset, .unset, .unset] [(.int (4 : Int32)), (.int xn)])) tgt
      refine XS.iand X0.here hx rfl (hb hby at_7) rfl ?_
      exact k
    obtain ⟨av, hav⟩ : ∃ z : Int32, z = (if (xn &&& (4 : Int32)) = (0 : Int32) then (xa &&& (3 : Int32)) else (xa &&& (2147483647 : Int32))) := ⟨_, rfl⟩
    refine own_st (V := s₁.setTop (mkF m 21 #[.val (.int xn), .val (.int xa), .val (.int p0), .val (.int p1), .val (.int p2), .val (.int (3 : Int32)), .unset, .unset, .unset, .unset, .unset, .unset, .unset, .unset] [(.int av)])) (fun tgt k => ?_) ?_
    · skip
      by_cases hc8_2 : (xn &&& (4 : Int32)) = (0 : Int32)
      · skip
        rw [if_pos hc8_2] at hav
        show Steps p.tables e below (s₁.setTop (mkF m 8 #[.val (.int xn), .val (.int xa), .val (.int p0), .val (.int p1), .val (.int p2), .val (.int (3 : Int32)), .unset, .unset, .unset, .unset, .unset, .unset, .unset, .unset] [(.int (xn &&& (4 : Int32)))])) tgt
        refine XS.ifYes X0.here hx rfl (pc0 := 8) (pc' := 18) rfl (hb hby at_8) rfl ((if0 _ _).trans (teq hc8_2).1) (by decide) (by decide) ?_
        show Steps p.tables e below (s₁.setTop (mkF m 18 #[.val (.int xn), .val (.int xa), .val (.int p0), .val (.int p1), .val (.int p2), .val (.int (3 : Int32)), .unset, .unset, .unset, .unset, .unset, .unset, .unset, .unset] [])) tgt
        refine XS.iloadN X0.here hx rfl (hb hby at_18) rfl ?_
        show Steps p.tables e below (s₁.setTop (mkF m 19 #[.val (.int xn), .val (.int xa), .val (.int p0), .val (.int p1), .val (.int p2), .val (.int (3 : Int32)), .unset, .unset, .unset, .unset, .unset, .unset, .unset, .unset] [(.int xa)])) tgt
        refine XS.iconst X0.here hx rfl (hb hby at_19) ?_
        show Steps p.tables e below (s₁.setTop (mkF m 20 #[.val (.int xn), .val (.int xa), .val (.int p0), .val (.int p1), .val (.int p2), .val (.int (3 : Int32)), .unset, .unset, .unset, .unset, .unset, .unset, .unset, .unset] [(.int (3 : Int32)), (.int xa)])) tgt
        refine XS.iand X0.here hx rfl (hb hby at_20) rfl ?_
        rw [hav] at k
        exact k
      · skip
        rw [if_neg hc8_2] at hav
        show Steps p.tables e below (s₁.setTop (mkF m 8 #[.val (.int xn), .val (.int xa), .val (.int p0), .val (.int p1), .val (.int p2), .val (.int (3 : Int32)), .unset, .unset, .unset, .unset, .unset, .unset, .unset, .unset] [(.int (xn &&& (4 : Int32)))])) tgt
        refine XS.ifNo X0.here hx rfl (hb hby at_8) rfl ((if0 _ _).trans (feq hc8_2).1) ?_
        show Steps p.tables e below (s₁.setTop (mkF m 11 #[.val (.int xn), .val (.int xa), .val (.int p0), .val (.int p1), .val (.int p2), .val (.int (3 : Int32)), .unset, .unset, .unset, .unset, .unset, .unset, .unset, .unset] [])) tgt
        refine XS.iloadN X0.here hx rfl (hb hby at_11) rfl ?_
        show Steps p.tables e below (s₁.setTop (mkF m 12 #[.val (.int xn), .val (.int xa), .val (.int p0), .val (.int p1), .val (.int p2), .val (.int (3 : Int32)), .unset, .unset, .unset, .unset, .unset, .unset, .unset, .unset] [(.int xa)])) tgt
        refine X0.ldcInt hx hown (mvT hZ (hw _ (List.mem_of_getElem? (i := 12) rfl))) (g := (mkF m 12 #[.val (.int xn), .val (.int xa), .val (.int p0), .val (.int p1), .val (.int p2), .val (.int (3 : Int32)), .unset, .unset, .unset, .unset, .unset, .unset, .unset, .unset] [(.int xa)])) rfl (hb hby at_12) _ ?_
        show Steps p.tables e below (s₁.setTop (mkF m 14 #[.val (.int xn), .val (.int xa), .val (.int p0), .val (.int p1), .val (.int p2), .val (.int (3 : Int32)), .unset, .unset, .unset, .unset, .unset, .unset, .unset, .unset] [(.int (2147483647 : Int32)), (.int xa)])) tgt
        refine XS.iand X0.here hx rfl (hb hby at_14) rfl ?_
        show Steps p.tables e below (s₁.setTop (mkF m 15 #[.val (.int xn), .val (.int xa), .val (.int p0), .val (.int p1), .val (.int p2), .val (.int (3 : Int32)), .unset, .unset, .unset, .unset, .unset, .unset, .unset, .unset] [(.int (xa &&& (2147483647 : Int32)))])) tgt
        refine XS.goto X0.here hx rfl (pc0 := 15) (pc' := 21) rfl (hb hby at_15) (by decide) (by decide) ?_
        rw [hav] at k
        exact k
    have hav0 : 0 ≤ av.toInt := by
      rw [hav]; split
      · exact (c_and xa 3 (by decide)).1
      · exact (c_and xa 2147483647 (by decide)).1
    refine own_st (V := s₁.setTop (mkF m 24 #[.val (.int xn), .val (.int xa), .val (.int p0), .val (.int p1), .val (.int p2), .val (.int (3 : Int32)), .val (.int av), .unset, .unset, .unset, .unset, .unset, .unset, .unset] [(.int p0)])) (fun tgt k => ?_) ?_
    · show Steps p.tables e below (s₁.setTop (mkF m 21 #[.val (.int xn), .val (.int xa), .val (.int p0), .val (.int p1), .val (.int p2), .val (.int (3 : Int32)), .unset, .unset, .unset, .unset, .unset, .unset, .unset, .unset] [(.int av)])) tgt
      refine XS.istore X0.here hx rfl (hb hby at_21) rfl (l' := #[.val (.int xn), .val (.int xa), .val (.int p0), .val (.int p1), .val (.int p2), .val (.int (3 : Int32)), .val (.int av), .unset, .unset, .unset, .unset, .unset, .unset, .unset]) rfl ?_
      show Steps p.tables e below (s₁.setTop (mkF m 23 #[.val (.int xn), .val (.int xa), .val (.int p0), .val (.int p1), .val (.int p2), .val (.int (3 : Int32)), .val (.int av), .unset, .unset, .unset, .unset, .unset, .unset, .unset] [])) tgt
      refine XS.iloadN X0.here hx rfl (hb hby at_23) rfl ?_
      exact k
    obtain ⟨_, _, ⟨T28, L28, k28, n28⟩, -, X28, ⟨Lc28, hQ28, l28, y28, z28⟩, st28⟩ := Jvm.LawKit.callS X0 hx (y := (⟨"com/example/tidewatch/tidewatch/io/DecimalSkipSignPinLaw", "pick", "(I)I"⟩ : MethodName)) hown (mvT hZ (hw _ (List.mem_of_getElem? (i := 0) rfl))) (mvT hZ (hw _ (List.mem_of_getElem? (i := 1) rfl))) (mvT hZ (hw _ (List.mem_of_getElem? (i := 2) rfl))) (mvT hZ (hw _ (List.mem_of_getElem? (i := 3) rfl))) (by decide) (backOf (W := 0) (rm1 l Z a0 hw [] p0 h0 n0 Z0 ) hZ (hw _ (List.mem_of_getElem? (i := 3) rfl)) (hw _ (List.mem_of_getElem? (i := 2) rfl)) (by decide) (by decide)) (g := (mkF m 24 #[.val (.int xn), .val (.int xa), .val (.int p0), .val (.int p1), .val (.int p2), .val (.int (3 : Int32)), .val (.int av), .unset, .unset, .unset, .unset, .unset, .unset, .unset] [(.int p0)])) rfl (by rw [hml]; rfl) (argsL := [(.int p0)]) (rest := []) (lenOf pd_0_0 rfl) rfl (by show 2 * 0 + _ ≤ _; exact Nat.le_of_eq rfl) (hb hby at_24) (fun _ _ => ⟨rfl, e0, (by decide : 0 + 0 ≤ _), (by decide : 0 + 0 ≤ _)⟩)
    dsimp only [Pt.U, Pt.locs, Pt.cells, Pt.slots] at X28 l28 y28 z28 st28 hQ28
    subst l28 y28 z28
    obtain ⟨rfl, N28q, K28⟩ := hQ28
    have N28 := Fr.app N0 N28q
    refine own_st st28 ?_
    show own_Go p e below _ (T28.setTop (mkF m 27 #[.val (.int xn), .val (.int xa), .val (.int p0), .val (.int p1), .val (.int p2), .val (.int (3 : Int32)), .val (.int av), .unset, .unset, .unset, .unset, .unset, .unset, .unset] [(.int (own_pick p0))]))
    refine own_st (V := T28.setTop (mkF m 29 #[.val (.int xn), .val (.int xa), .val (.int p0), .val (.int p1), .val (.int p2), .val (.int (3 : Int32)), .val (.int av), .val (.int (own_pick p0)), .unset, .unset, .unset, .unset, .unset, .unset] [])) (fun tgt k => ?_) ?_
    · show Steps p.tables e below (T28.setTop (mkF m 27 #[.val (.int xn), .val (.int xa), .val (.int p0), .val (.int p1), .val (.int p2), .val (.int (3 : Int32)), .val (.int av), .unset, .unset, .unset, .unset, .unset, .unset, .unset] [(.int (own_pick p0))])) tgt
      refine XS.istore X28.here hx rfl (hb hby at_27) rfl (l' := #[.val (.int xn), .val (.int xa), .val (.int p0), .val (.int p1), .val (.int p2), .val (.int (3 : Int32)), .val (.int av), .val (.int (own_pick p0)), .unset, .unset, .unset, .unset, .unset, .unset]) rfl ?_
      exact k
    obtain ⟨v0, hv0⟩ : ∃ z : Int32, z = (own_pick p0) := ⟨_, rfl⟩
    rw [← hv0]
    have v0b : v0.toInt8.toInt32 = v0 := by rw [hv0]; exact own_pick8 p0
    refine own_st (V := T28.setTop (mkF m 30 #[.val (.int xn), .val (.int xa), .val (.int p0), .val (.int p1), .val (.int p2), .val (.int (3 : Int32)), .val (.int av), .val (.int v0), .unset, .unset, .unset, .unset, .unset, .unset] [(.int p1)])) (fun tgt k => ?_) ?_
    · show Steps p.tables e below (T28.setTop (mkF m 29 #[.val (.int xn), .val (.int xa), .val (.int p0), .val (.int p1), .val (.int p2), .val (.int (3 : Int32)), .val (.int av), .val (.int v0), .unset, .unset, .unset, .unset, .unset, .unset] [])) tgt
      refine XS.iloadN X28.here hx rfl (hb hby at_29) rfl ?_
      exact k
    obtain ⟨_, _, ⟨T29, L29, k29, n29⟩, -, X29, ⟨Lc29, hQ29, l29, y29, z29⟩, st29⟩ := Jvm.LawKit.callS X28 hx (y := (⟨"com/example/tidewatch/tidewatch/io/DecimalSkipSignPinLaw", "pick", "(I)I"⟩ : MethodName)) hown (mvT hZ (hw _ (List.mem_of_getElem? (i := 0) rfl))) (mvT hZ (hw _ (List.mem_of_getElem? (i := 1) rfl))) (mvT hZ (hw _ (List.mem_of_getElem? (i := 2) rfl))) (mvT hZ (hw _ (List.mem_of_getElem? (i := 3) rfl))) (by decide) (backOf (W := 0) (rm1 l Z a0 hw [] p1 h0 n0 Z0 ) hZ (hw _ (List.mem_of_getElem? (i := 3) rfl)) (hw _ (List.mem_of_getElem? (i := 2) rfl)) (by decide) (by decide)) (g := (mkF m 30 #[.val (.int xn), .val (.int xa), .val (.int p0), .val (.int p1), .val (.int p2), .val (.int (3 : Int32)), .val (.int av), .val (.int v0), .unset, .unset, .unset, .unset, .unset, .unset] [(.int p1)])) rfl (by rw [hml]; rfl) (argsL := [(.int p1)]) (rest := []) (lenOf pd_0_0 rfl) rfl (by show 2 * 0 + _ ≤ _; exact Nat.le_of_eq rfl) (hb hby at_30) (fun _ _ => ⟨rfl, K28, (by decide : 0 + 0 ≤ _), (by decide : 0 + 0 ≤ _)⟩)
    dsimp only [Pt.U, Pt.locs, Pt.cells, Pt.slots] at X29 l29 y29 z29 st29 hQ29
    subst l29 y29 z29
    obtain ⟨rfl, N29q, K29⟩ := hQ29
    have N29 := Fr.app N28 N29q
    refine own_st st29 ?_
    show own_Go p e below _ (T29.setTop (mkF m 33 #[.val (.int xn), .val (.int xa), .val (.int p0), .val (.int p1), .val (.int p2), .val (.int (3 : Int32)), .val (.int av), .val (.int v0), .unset, .unset, .unset, .unset, .unset, .unset] [(.int (own_pick p1))]))
    refine own_st (V := T29.setTop (mkF m 35 #[.val (.int xn), .val (.int xa), .val (.int p0), .val (.int p1), .val (.int p2), .val (.int (3 : Int32)), .val (.int av), .val (.int v0), .val (.int (own_pick p1)), .unset, .unset, .unset, .unset, .unset] [])) (fun tgt k => ?_) ?_
    · show Steps p.tables e below (T29.setTop (mkF m 33 #[.val (.int xn), .val (.int xa), .val (.int p0), .val (.int p1), .val (.int p2), .val (.int (3 : Int32)), .val (.int av), .val (.int v0), .unset, .unset, .unset, .unset, .unset, .unset] [(.int (own_pick p1))])) tgt
      refine XS.istore X29.here hx rfl (hb hby at_33) rfl (l' := #[.val (.int xn), .val (.int xa), .val (.int p0), .val (.int p1), .val (.int p2), .val (.int (3 : Int32)), .val (.int av), .val (.int v0), .val (.int (own_pick p1)), .unset, .unset, .unset, .unset, .unset]) rfl ?_
      exact k
    obtain ⟨v1, hv1⟩ : ∃ z : Int32, z = (own_pick p1) := ⟨_, rfl⟩
    rw [← hv1]
    have v1b : v1.toInt8.toInt32 = v1 := by rw [hv1]; exact own_pick8 p1
    refine own_st (V := T29.setTop (mkF m 37 #[.val (.int xn), .val (.int xa), .val (.int p0), .val (.int p1), .val (.int p2), .val (.int (3 : Int32)), .val (.int av), .val (.int v0), .val (.int v1), .unset, .unset, .unset, .unset, .unset] [(.int p2)])) (fun tgt k => ?_) ?_
    · show Steps p.tables e below (T29.setTop (mkF m 35 #[.val (.int xn), .val (.int xa), .val (.int p0), .val (.int p1), .val (.int p2), .val (.int (3 : Int32)), .val (.int av), .val (.int v0), .val (.int v1), .unset, .unset, .unset, .unset, .unset] [])) tgt
      refine XS.iload X29.here hx rfl (hb hby at_35) rfl ?_
      exact k
    obtain ⟨_, _, ⟨T30, L30, k30, n30⟩, -, X30, ⟨Lc30, hQ30, l30, y30, z30⟩, st30⟩ := Jvm.LawKit.callS X29 hx (y := (⟨"com/example/tidewatch/tidewatch/io/DecimalSkipSignPinLaw", "pick", "(I)I"⟩ : MethodName)) hown (mvT hZ (hw _ (List.mem_of_getElem? (i := 0) rfl))) (mvT hZ (hw _ (List.mem_of_getElem? (i := 1) rfl))) (mvT hZ (hw _ (List.mem_of_getElem? (i := 2) rfl))) (mvT hZ (hw _ (List.mem_of_getElem? (i := 3) rfl))) (by decide) (backOf (W := 0) (rm1 l Z a0 hw [] p2 h0 n0 Z0 ) hZ (hw _ (List.mem_of_getElem? (i := 3) rfl)) (hw _ (List.mem_of_getElem? (i := 2) rfl)) (by decide) (by decide)) (g := (mkF m 37 #[.val (.int xn), .val (.int xa), .val (.int p0), .val (.int p1), .val (.int p2), .val (.int (3 : Int32)), .val (.int av), .val (.int v0), .val (.int v1), .unset, .unset, .unset, .unset, .unset] [(.int p2)])) rfl (by rw [hml]; rfl) (argsL := [(.int p2)]) (rest := []) (lenOf pd_0_0 rfl) rfl (by show 2 * 0 + _ ≤ _; exact Nat.le_of_eq rfl) (hb hby at_37) (fun _ _ => ⟨rfl, K29, (by decide : 0 + 0 ≤ _), (by decide : 0 + 0 ≤ _)⟩)
    dsimp only [Pt.U, Pt.locs, Pt.cells, Pt.slots] at X30 l30 y30 z30 st30 hQ30
    subst l30 y30 z30
    obtain ⟨rfl, N30q, K30⟩ := hQ30
    have N30 := Fr.app N29 N30q
    refine own_st st30 ?_
    show own_Go p e below _ (T30.setTop (mkF m 40 #[.val (.int xn), .val (.int xa), .val (.int p0), .val (.int p1), .val (.int p2), .val (.int (3 : Int32)), .val (.int av), .val (.int v0), .val (.int v1), .unset, .unset, .unset, .unset, .unset] [(.int (own_pick p2))]))
    refine own_st (V := T30.setTop (mkF m 42 #[.val (.int xn), .val (.int xa), .val (.int p0), .val (.int p1), .val (.int p2), .val (.int (3 : Int32)), .val (.int av), .val (.int v0), .val (.int v1), .val (.int (own_pick p2)), .unset, .unset, .unset, .unset] [])) (fun tgt k => ?_) ?_
    · show Steps p.tables e below (T30.setTop (mkF m 40 #[.val (.int xn), .val (.int xa), .val (.int p0), .val (.int p1), .val (.int p2), .val (.int (3 : Int32)), .val (.int av), .val (.int v0), .val (.int v1), .unset, .unset, .unset, .unset, .unset] [(.int (own_pick p2))])) tgt
      refine XS.istore X30.here hx rfl (hb hby at_40) rfl (l' := #[.val (.int xn), .val (.int xa), .val (.int p0), .val (.int p1), .val (.int p2), .val (.int (3 : Int32)), .val (.int av), .val (.int v0), .val (.int v1), .val (.int (own_pick p2)), .unset, .unset, .unset, .unset]) rfl ?_
      exact k
    obtain ⟨v2, hv2⟩ : ∃ z : Int32, z = (own_pick p2) := ⟨_, rfl⟩
    rw [← hv2]
    have v2b : v2.toInt8.toInt32 = v2 := by rw [hv2]; exact own_pick8 p2
    refine own_st (V := T30.setTop (mkF m 44 #[.val (.int xn), .val (.int xa), .val (.int p0), .val (.int p1), .val (.int p2), .val (.int (3 : Int32)), .val (.int av), .val (.int v0), .val (.int v1), .val (.int v2), .unset, .unset, .unset, .unset] [(.int (3 : Int32))])) (fun tgt k => ?_) ?_
    · show Steps p.tables e below (T30.setTop (mkF m 42 #[.val (.int xn), .val (.int xa), .val (.int p0), .val (.int p1), .val (.int p2), .val (.int (3 : Int32)), .val (.int av), .val (.int v0), .val (.int v1), .val (.int v2), .unset, .unset, .unset, .unset] [])) tgt
      refine XS.iload X30.here hx rfl (hb hby at_42) rfl ?_
      exact k
    obtain ⟨T31, h31, c31, X31, e31, E31, A31, st31⟩ := own_newarr X30 hx hZ (hw _ (List.mem_of_getElem? (i := 4) rfl)) K30 (g := (mkF m 44 #[.val (.int xn), .val (.int xa), .val (.int p0), .val (.int p1), .val (.int p2), .val (.int (3 : Int32)), .val (.int av), .val (.int v0), .val (.int v1), .val (.int v2), .unset, .unset, .unset, .unset] [(.int (3 : Int32))])) rfl (hb hby at_44) rfl (k := 3) rfl (cap := 3) (by decide) (by decide) (by decide) (by decide)
    obtain ⟨ca, g31⟩ : ∃ z, z = h0.size := ⟨_, rfl⟩
    rw [← g31] at A31 st31
    have g_ca : n0 ≤ ca := Nat.le_trans Z0 (Nat.le_of_eq g31.symm)
    have A_ca_31 : own_Ai Z h31 ca .byte 3 (fun _ => 0) := own_Ai.new A31
    have Zs31 : n0 ≤ h31.size := Nat.le_trans Z0 E31.1
    refine own_st st31 ?_
    show own_Go p e below _ (T31.setTop (mkF m 46 #[.val (.int xn), .val (.int xa), .val (.int p0), .val (.int p1), .val (.int p2), .val (.int (3 : Int32)), .val (.int av), .val (.int v0), .val (.int v1), .val (.int v2), .unset, .unset, .unset, .unset] [(.ref ca)]))
    refine own_st (V := T31.setTop (mkF m 59 #[.val (.int xn), .val (.int xa), .val (.int p0), .val (.int p1), .val (.int p2), .val (.int (3 : Int32)), .val (.int av), .val (.int v0), .val (.int v1), .val (.int v2), .val (.ref ca), .unset, .unset, .unset] [(.int (v0.toInt8.toInt32)), (.int (0 : Int32)), (.ref ca)])) (fun tgt k => ?_) ?_
    · show Steps p.tables e below (T31.setTop (mkF m 46 #[.val (.int xn), .val (.int xa), .val (.int p0), .val (.int p1), .val (.int p2), .val (.int (3 : Int32)), .val (.int av), .val (.int v0), .val (.int v1), .val (.int v2), .unset, .unset, .unset, .unset] [(.ref ca)])) tgt
      refine XS.astore X31.here hx rfl (hb hby at_46) rfl rfl (l' := #[.val (.int xn), .val (.int xa), .val (.int p0), .val (.int p1), .val (.int p2), .val (.int (3 : Int32)), .val (.int av), .val (.int v0), .val (.int v1), .val (.int v2), .val (.ref ca), .unset, .unset, .unset]) rfl ?_
      show Steps p.tables e below (T31.setTop (mkF m 48 #[.val (.int xn), .val (.int xa), .val (.int p0), .val (.int p1), .val (.int p2), .val (.int (3 : Int32)), .val (.int av), .val (.int v0), .val (.int v1), .val (.int v2), .val (.ref ca), .unset, .unset, .unset] [])) tgt
      refine XS.iload X31.here hx rfl (hb hby at_48) rfl ?_
      show Steps p.tables e below (T31.setTop (mkF m 50 #[.val (.int xn), .val (.int xa), .val (.int p0), .val (.int p1), .val (.int p2), .val (.int (3 : Int32)), .val (.int av), .val (.int v0), .val (.int v1), .val (.int v2), .val (.ref ca), .unset, .unset, .unset] [(.int (3 : Int32))])) tgt
      refine XS.ifNo X31.here hx rfl (hb hby at_50) rfl ((if0 _ _).trans (tlt (by decide : (0 : Int32) < (3 : Int32))).2.2.2) ?_
      show Steps p.tables e below (T31.setTop (mkF m 53 #[.val (.int xn), .val (.int xa), .val (.int p0), .val (.int p1), .val (.int p2), .val (.int (3 : Int32)), .val (.int av), .val (.int v0), .val (.int v1), .val (.int v2), .val (.ref ca), .unset, .unset, .unset] [])) tgt
      refine XS.aload X31.here hx rfl (hb hby at_53) rfl rfl ?_
      show Steps p.tables e below (T31.setTop (mkF m 55 #[.val (.int xn), .val (.int xa), .val (.int p0), .val (.int p1), .val (.int p2), .val (.int (3 : Int32)), .val (.int av), .val (.int v0), .val (.int v1), .val (.int v2), .val (.ref ca), .unset, .unset, .unset] [(.ref ca)])) tgt
      refine XS.iconst X31.here hx rfl (hb hby at_55) ?_
      show Steps p.tables e below (T31.setTop (mkF m 56 #[.val (.int xn), .val (.int xa), .val (.int p0), .val (.int p1), .val (.int p2), .val (.int (3 : Int32)), .val (.int av), .val (.int v0), .val (.int v1), .val (.int v2), .val (.ref ca), .unset, .unset, .unset] [(.int (0 : Int32)), (.ref ca)])) tgt
      refine XS.iload X31.here hx rfl (hb hby at_56) rfl ?_
      show Steps p.tables e below (T31.setTop (mkF m 58 #[.val (.int xn), .val (.int xa), .val (.int p0), .val (.int p1), .val (.int p2), .val (.int (3 : Int32)), .val (.int av), .val (.int v0), .val (.int v1), .val (.int v2), .val (.ref ca), .unset, .unset, .unset] [(.int v0), (.int (0 : Int32)), (.ref ca)])) tgt
      refine XS.i2b X31.here hx rfl (hb hby at_58) rfl ?_
      exact k
    obtain ⟨T32, h32, X32, e32, W32, A_ca_32, st32⟩ := own_bastore X31 hx hZ e31 A_ca_31 (j := (0 : Int32)) (k := 0) rfl (by decide) (g := (mkF m 59 #[.val (.int xn), .val (.int xa), .val (.int p0), .val (.int p1), .val (.int p2), .val (.int (3 : Int32)), .val (.int av), .val (.int v0), .val (.int v1), .val (.int v2), .val (.ref ca), .unset, .unset, .unset] [(.int (v0.toInt8.toInt32)), (.int (0 : Int32)), (.ref ca)])) rfl rfl (hb hby at_59)
    have N32 := Fr.snoc X32 N30 g_ca
    have Zs32 : n0 ≤ h32.size := Nat.le_trans Zs31 (Keep.of_wr W32).1
    refine own_st st32 ?_
    show own_Go p e below _ (T32.setTop (mkF m 60 #[.val (.int xn), .val (.int xa), .val (.int p0), .val (.int p1), .val (.int p2), .val (.int (3 : Int32)), .val (.int av), .val (.int v0), .val (.int v1), .val (.int v2), .val (.ref ca), .unset, .unset, .unset] []))
    have Af_ca_33 := A_ca_32
    rw [show (own_up (fun _ => 0) 0 (v0.toInt8.toInt32).toInt8.toInt32) = (own_up (fun _ => 0) 0 v0) from by rw [v0b, v0b]] at Af_ca_33
    refine own_st (V := T32.setTop (mkF m 72 #[.val (.int xn), .val (.int xa), .val (.int p0), .val (.int p1), .val (.int p2), .val (.int (3 : Int32)), .val (.int av), .val (.int v0), .val (.int v1), .val (.int v2), .val (.ref ca), .unset, .unset, .unset] [(.int (v1.toInt8.toInt32)), (.int (1 : Int32)), (.ref ca)])) (fun tgt k => ?_) ?_
    · show Steps p.tables e below (T32.setTop (mkF m 60 #[.val (.int xn), .val (.int xa), .val (.int p0), .val (.int p1), .val (.int p2), .val (.int (3 : Int32)), .val (.int av), .val (.int v0), .val (.int v1), .val (.int v2), .val (.ref ca), .unset, .unset, .unset] [])) tgt
      refine XS.iload X32.here hx rfl (hb hby at_60) rfl ?_
      show Steps p.tables e below (T32.setTop (mkF m 62 #[.val (.int xn), .val (.int xa), .val (.int p0), .val (.int p1), .val (.int p2), .val (.int (3 : Int32)), .val (.int av), .val (.int v0), .val (.int v1), .val (.int v2), .val (.ref ca), .unset, .unset, .unset] [(.int (3 : Int32))])) tgt
      refine XS.iconst X32.here hx rfl (hb hby at_62) ?_
      show Steps p.tables e below (T32.setTop (mkF m 63 #[.val (.int xn), .val (.int xa), .val (.int p0), .val (.int p1), .val (.int p2), .val (.int (3 : Int32)), .val (.int av), .val (.int v0), .val (.int v1), .val (.int v2), .val (.ref ca), .unset, .unset, .unset] [(.int (1 : Int32)), (.int (3 : Int32))])) tgt
      refine XS.icmpNo X32.here hx rfl (hb hby at_63) rfl (tlt (by decide : (1 : Int32) < (3 : Int32))).2.2.2 ?_
      show Steps p.tables e below (T32.setTop (mkF m 66 #[.val (.int xn), .val (.int xa), .val (.int p0), .val (.int p1), .val (.int p2), .val (.int (3 : Int32)), .val (.int av), .val (.int v0), .val (.int v1), .val (.int v2), .val (.ref ca), .unset, .unset, .unset] [])) tgt
      refine XS.aload X32.here hx rfl (hb hby at_66) rfl rfl ?_
      show Steps p.tables e below (T32.setTop (mkF m 68 #[.val (.int xn), .val (.int xa), .val (.int p0), .val (.int p1), .val (.int p2), .val (.int (3 : Int32)), .val (.int av), .val (.int v0), .val (.int v1), .val (.int v2), .val (.ref ca), .unset, .unset, .unset] [(.ref ca)])) tgt
      refine XS.iconst X32.here hx rfl (hb hby at_68) ?_
      show Steps p.tables e below (T32.setTop (mkF m 69 #[.val (.int xn), .val (.int xa), .val (.int p0), .val (.int p1), .val (.int p2), .val (.int (3 : Int32)), .val (.int av), .val (.int v0), .val (.int v1), .val (.int v2), .val (.ref ca), .unset, .unset, .unset] [(.int (1 : Int32)), (.ref ca)])) tgt
      refine XS.iload X32.here hx rfl (hb hby at_69) rfl ?_
      show Steps p.tables e below (T32.setTop (mkF m 71 #[.val (.int xn), .val (.int xa), .val (.int p0), .val (.int p1), .val (.int p2), .val (.int (3 : Int32)), .val (.int av), .val (.int v0), .val (.int v1), .val (.int v2), .val (.ref ca), .unset, .unset, .unset] [(.int v1), (.int (1 : Int32)), (.ref ca)])) tgt
      refine XS.i2b X32.here hx rfl (hb hby at_71) rfl ?_
      exact k
    obtain ⟨T34, h34, X34, e34, W34, A_ca_34, st34⟩ := own_bastore X32 hx hZ e32 Af_ca_33 (j := (1 : Int32)) (k := 1) rfl (by decide) (g := (mkF m 72 #[.val (.int xn), .val (.int xa), .val (.int p0), .val (.int p1), .val (.int p2), .val (.int (3 : Int32)), .val (.int av), .val (.int v0), .val (.int v1), .val (.int v2), .val (.ref ca), .unset, .unset, .unset] [(.int (v1.toInt8.toInt32)), (.int (1 : Int32)), (.ref ca)])) rfl rfl (hb hby at_72)
    have N34 := Fr.snoc X34 N32 g_ca
    have Zs34 : n0 ≤ h34.size := Nat.le_trans Zs32 (Keep.of_wr W34).1
    refine own_st st34 ?_
    show own_Go p e below _ (T34.setTop (mkF m 73 #[.val (.int xn), .val (.int xa), .val (.int p0), .val (.int p1), .val (.int p2), .val (.int (3 : Int32)), .val (.int av), .val (.int v0), .val (.int v1), .val (.int v2), .val (.ref ca), .unset, .unset, .unset] []))
    have Af_ca_35 := A_ca_34
    rw [show (own_up (own_up (fun _ => 0) 0 v0) 1 (v1.toInt8.toInt32).toInt8.toInt32) = (own_up (own_up (fun _ => 0) 0 v0) 1 v1) from by rw [v1b, v1b]] at Af_ca_35
    refine own_st (V := T34.setTop (mkF m 85 #[.val (.int xn), .val (.int xa), .val (.int p0), .val (.int p1), .val (.int p2), .val (.int (3 : Int32)), .val (.int av), .val (.int v0), .val (.int v1), .val (.int v2), .val (.ref ca), .unset, .unset, .unset] [(.int (v2.toInt8.toInt32)), (.int (2 : Int32)), (.ref ca)])) (fun tgt k => ?_) ?_
    · show Steps p.tables e below (T34.setTop (mkF m 73 #[.val (.int xn), .val (.int xa), .val (.int p0), .val (.int p1), .val (.int p2), .val (.int (3 : Int32)), .val (.int av), .val (.int v0), .val (.int v1), .val (.int v2), .val (.ref ca), .unset, .unset, .unset] [])) tgt
      refine XS.iload X34.here hx rfl (hb hby at_73) rfl ?_
      show Steps p.tables e below (T34.setTop (mkF m 75 #[.val (.int xn), .val (.int xa), .val (.int p0), .val (.int p1), .val (.int p2), .val (.int (3 : Int32)), .val (.int av), .val (.int v0), .val (.int v1), .val (.int v2), .val (.ref ca), .unset, .unset, .unset] [(.int (3 : Int32))])) tgt
      refine XS.iconst X34.here hx rfl (hb hby at_75) ?_
      show Steps p.tables e below (T34.setTop (mkF m 76 #[.val (.int xn), .val (.int xa), .val (.int p0), .val (.int p1), .val (.int p2), .val (.int (3 : Int32)), .val (.int av), .val (.int v0), .val (.int v1), .val (.int v2), .val (.ref ca), .unset, .unset, .unset] [(.int (2 : Int32)), (.int (3 : Int32))])) tgt
      refine XS.icmpNo X34.here hx rfl (hb hby at_76) rfl (tlt (by decide : (2 : Int32) < (3 : Int32))).2.2.2 ?_
      show Steps p.tables e below (T34.setTop (mkF m 79 #[.val (.int xn), .val (.int xa), .val (.int p0), .val (.int p1), .val (.int p2), .val (.int (3 : Int32)), .val (.int av), .val (.int v0), .val (.int v1), .val (.int v2), .val (.ref ca), .unset, .unset, .unset] [])) tgt
      refine XS.aload X34.here hx rfl (hb hby at_79) rfl rfl ?_
      show Steps p.tables e below (T34.setTop (mkF m 81 #[.val (.int xn), .val (.int xa), .val (.int p0), .val (.int p1), .val (.int p2), .val (.int (3 : Int32)), .val (.int av), .val (.int v0), .val (.int v1), .val (.int v2), .val (.ref ca), .unset, .unset, .unset] [(.ref ca)])) tgt
      refine XS.iconst X34.here hx rfl (hb hby at_81) ?_
      show Steps p.tables e below (T34.setTop (mkF m 82 #[.val (.int xn), .val (.int xa), .val (.int p0), .val (.int p1), .val (.int p2), .val (.int (3 : Int32)), .val (.int av), .val (.int v0), .val (.int v1), .val (.int v2), .val (.ref ca), .unset, .unset, .unset] [(.int (2 : Int32)), (.ref ca)])) tgt
      refine XS.iload X34.here hx rfl (hb hby at_82) rfl ?_
      show Steps p.tables e below (T34.setTop (mkF m 84 #[.val (.int xn), .val (.int xa), .val (.int p0), .val (.int p1), .val (.int p2), .val (.int (3 : Int32)), .val (.int av), .val (.int v0), .val (.int v1), .val (.int v2), .val (.ref ca), .unset, .unset, .unset] [(.int v2), (.int (2 : Int32)), (.ref ca)])) tgt
      refine XS.i2b X34.here hx rfl (hb hby at_84) rfl ?_
      exact k
    obtain ⟨T36, h36, X36, e36, W36, A_ca_36, st36⟩ := own_bastore X34 hx hZ e34 Af_ca_35 (j := (2 : Int32)) (k := 2) rfl (by decide) (g := (mkF m 85 #[.val (.int xn), .val (.int xa), .val (.int p0), .val (.int p1), .val (.int p2), .val (.int (3 : Int32)), .val (.int av), .val (.int v0), .val (.int v1), .val (.int v2), .val (.ref ca), .unset, .unset, .unset] [(.int (v2.toInt8.toInt32)), (.int (2 : Int32)), (.ref ca)])) rfl rfl (hb hby at_85)
    have N36 := Fr.snoc X36 N34 g_ca
    have Zs36 : n0 ≤ h36.size := Nat.le_trans Zs34 (Keep.of_wr W36).1
    refine own_st st36 ?_
    show own_Go p e below _ (T36.setTop (mkF m 86 #[.val (.int xn), .val (.int xa), .val (.int p0), .val (.int p1), .val (.int p2), .val (.int (3 : Int32)), .val (.int av), .val (.int v0), .val (.int v1), .val (.int v2), .val (.ref ca), .unset, .unset, .unset] []))
    have Af_ca_37 := A_ca_36
    rw [show (own_up (own_up (own_up (fun _ => 0) 0 v0) 1 v1) 2 (v2.toInt8.toInt32).toInt8.toInt32) = (own_up (own_up (own_up (fun _ => 0) 0 v0) 1 v1) 2 v2) from by rw [v2b, v2b]] at Af_ca_37
    refine own_st (V := T36.setTop (mkF m 96 #[.val (.int xn), .val (.int xa), .val (.int p0), .val (.int p1), .val (.int p2), .val (.int (3 : Int32)), .val (.int av), .val (.int v0), .val (.int v1), .val (.int v2), .val (.ref ca), .unset, .unset, .unset] [(.int v2), (.int v1), (.int v0), (.int (3 : Int32)), (.int av)])) (fun tgt k => ?_) ?_
    · show Steps p.tables e below (T36.setTop (mkF m 86 #[.val (.int xn), .val (.int xa), .val (.int p0), .val (.int p1), .val (.int p2), .val (.int (3 : Int32)), .val (.int av), .val (.int v0), .val (.int v1), .val (.int v2), .val (.ref ca), .unset, .unset, .unset] [])) tgt
      refine XS.iload X36.here hx rfl (hb hby at_86) rfl ?_
      show Steps p.tables e below (T36.setTop (mkF m 88 #[.val (.int xn), .val (.int xa), .val (.int p0), .val (.int p1), .val (.int p2), .val (.int (3 : Int32)), .val (.int av), .val (.int v0), .val (.int v1), .val (.int v2), .val (.ref ca), .unset, .unset, .unset] [(.int av)])) tgt
      refine XS.iload X36.here hx rfl (hb hby at_88) rfl ?_
      show Steps p.tables e below (T36.setTop (mkF m 90 #[.val (.int xn), .val (.int xa), .val (.int p0), .val (.int p1), .val (.int p2), .val (.int (3 : Int32)), .val (.int av), .val (.int v0), .val (.int v1), .val (.int v2), .val (.ref ca), .unset, .unset, .unset] [(.int (3 : Int32)), (.int av)])) tgt
      refine XS.iload X36.here hx rfl (hb hby at_90) rfl ?_
      show Steps p.tables e below (T36.setTop (mkF m 92 #[.val (.int xn), .val (.int xa), .val (.int p0), .val (.int p1), .val (.int p2), .val (.int (3 : Int32)), .val (.int av), .val (.int v0), .val (.int v1), .val (.int v2), .val (.ref ca), .unset, .unset, .unset] [(.int v0), (.int (3 : Int32)), (.int av)])) tgt
      refine XS.iload X36.here hx rfl (hb hby at_92) rfl ?_
      show Steps p.tables e below (T36.setTop (mkF m 94 #[.val (.int xn), .val (.int xa), .val (.int p0), .val (.int p1), .val (.int p2), .val (.int (3 : Int32)), .val (.int av), .val (.int v0), .val (.int v1), .val (.int v2), .val (.ref ca), .unset, .unset, .unset] [(.int v1), (.int v0), (.int (3 : Int32)), (.int av)])) tgt
      refine XS.iload X36.here hx rfl (hb hby at_94) rfl ?_
      exact k
    obtain ⟨_, _, ⟨T38, L38, k38, n38⟩, -, X38, ⟨Lc38, hQ38, l38, y38, z38⟩, st38⟩ := Jvm.LawKit.callS X36 hx (y := (⟨"com/example/tidewatch/tidewatch/io/DecimalSkipSignPinLaw", "drawnAt", "(IIIII)I"⟩ : MethodName)) hown (mvT hZ (hw _ (List.mem_of_getElem? (i := 5) rfl))) (mvT hZ (hw _ (List.mem_of_getElem? (i := 6) rfl))) (mvT hZ (hw _ (List.mem_of_getElem? (i := 2) rfl))) (mvT hZ (hw _ (List.mem_of_getElem? (i := 7) rfl))) (by decide) (backOf (W := 0) (rm2 l Z a0 hw [] av (3 : Int32) v0 v1 v2 h36 n0 Zs36 ) hZ (hw _ (List.mem_of_getElem? (i := 7) rfl)) (hw _ (List.mem_of_getElem? (i := 2) rfl)) (by decide) (by decide)) (g := (mkF m 96 #[.val (.int xn), .val (.int xa), .val (.int p0), .val (.int p1), .val (.int p2), .val (.int (3 : Int32)), .val (.int av), .val (.int v0), .val (.int v1), .val (.int v2), .val (.ref ca), .unset, .unset, .unset] [(.int v2), (.int v1), (.int v0), (.int (3 : Int32)), (.int av)])) rfl (by rw [hml]; rfl) (argsL := [(.int av), (.int (3 : Int32)), (.int v0), (.int v1), (.int v2)]) (rest := []) (lenOf pd_0_1 rfl) rfl (by show 2 * 0 + _ ≤ _; exact Nat.le_of_eq rfl) (hb hby at_96) (fun _ _ => ⟨rfl, e36, (by decide : 1 + 0 ≤ _), (by decide : 3 + 0 ≤ _)⟩)
    dsimp only [Pt.U, Pt.locs, Pt.cells, Pt.slots] at X38 l38 y38 z38 st38 hQ38
    subst l38 y38 z38
    obtain ⟨rfl, N38q, K38⟩ := hQ38
    have N38 := Fr.app N36 N38q
    refine own_st st38 ?_
    show own_Go p e below _ (T38.setTop (mkF m 99 #[.val (.int xn), .val (.int xa), .val (.int p0), .val (.int p1), .val (.int p2), .val (.int (3 : Int32)), .val (.int av), .val (.int v0), .val (.int v1), .val (.int v2), .val (.ref ca), .unset, .unset, .unset] [(.int (own_drawn av (3 : Int32) v0 v1 v2))]))
    refine own_st (V := T38.setTop (mkF m 101 #[.val (.int xn), .val (.int xa), .val (.int p0), .val (.int p1), .val (.int p2), .val (.int (3 : Int32)), .val (.int av), .val (.int v0), .val (.int v1), .val (.int v2), .val (.ref ca), .val (.int (own_drawn av (3 : Int32) v0 v1 v2)), .unset, .unset] [])) (fun tgt k => ?_) ?_
    · show Steps p.tables e below (T38.setTop (mkF m 99 #[.val (.int xn), .val (.int xa), .val (.int p0), .val (.int p1), .val (.int p2), .val (.int (3 : Int32)), .val (.int av), .val (.int v0), .val (.int v1), .val (.int v2), .val (.ref ca), .unset, .unset, .unset] [(.int (own_drawn av (3 : Int32) v0 v1 v2))])) tgt
      refine XS.istore X38.here hx rfl (hb hby at_99) rfl (l' := #[.val (.int xn), .val (.int xa), .val (.int p0), .val (.int p1), .val (.int p2), .val (.int (3 : Int32)), .val (.int av), .val (.int v0), .val (.int v1), .val (.int v2), .val (.ref ca), .val (.int (own_drawn av (3 : Int32) v0 v1 v2)), .unset, .unset]) rfl ?_
      exact k
    obtain ⟨dw, hdw⟩ : ∃ z : Int32, z = (own_drawn av (3 : Int32) v0 v1 v2) := ⟨_, rfl⟩
    rw [← hdw]
    refine own_st (V := T38.setTop (mkF m 105 #[.val (.int xn), .val (.int xa), .val (.int p0), .val (.int p1), .val (.int p2), .val (.int (3 : Int32)), .val (.int av), .val (.int v0), .val (.int v1), .val (.int v2), .val (.ref ca), .val (.int dw), .unset, .unset] [(.int (43 : Int32)), (.int dw)])) (fun tgt k => ?_) ?_
    · show Steps p.tables e below (T38.setTop (mkF m 101 #[.val (.int xn), .val (.int xa), .val (.int p0), .val (.int p1), .val (.int p2), .val (.int (3 : Int32)), .val (.int av), .val (.int v0), .val (.int v1), .val (.int v2), .val (.ref ca), .val (.int dw), .unset, .unset] [])) tgt
      refine XS.iload X38.here hx rfl (hb hby at_101) rfl ?_
      show Steps p.tables e below (T38.setTop (mkF m 103 #[.val (.int xn), .val (.int xa), .val (.int p0), .val (.int p1), .val (.int p2), .val (.int (3 : Int32)), .val (.int av), .val (.int v0), .val (.int v1), .val (.int v2), .val (.ref ca), .val (.int dw), .unset, .unset] [(.int dw)])) tgt
      refine XS.bipush X38.here hx rfl (hb hby at_103) ?_
      exact k
    obtain ⟨xe, hxe⟩ : ∃ z : Int32, z = (if dw = (43 : Int32) then (av + (1 : Int32)) else (if dw = (45 : Int32) then (av + (1 : Int32)) else av)) := ⟨_, rfl⟩
    refine own_st (V := T38.setTop (mkF m 124 #[.val (.int xn), .val (.int xa), .val (.int p0), .val (.int p1), .val (.int p2), .val (.int (3 : Int32)), .val (.int av), .val (.int v0), .val (.int v1), .val (.int v2), .val (.ref ca), .val (.int dw), .unset, .unset] [(.int xe)])) (fun tgt k => ?_) ?_
    · skip
      by_cases hc105_2 : dw = (43 : Int32)
      · skip
        rw [if_pos hc105_2] at hxe
        show Steps p.tables e below (T38.setTop (mkF m 105 #[.val (.int xn), .val (.int xa), .val (.int p0), .val (.int p1), .val (.int p2), .val (.int (3 : Int32)), .val (.int av), .val (.int v0), .val (.int v1), .val (.int v2), .val (.ref ca), .val (.int dw), .unset, .unset] [(.int (43 : Int32)), (.int dw)])) tgt
        refine XS.icmpYes X38.here hx rfl (pc0 := 105) (pc' := 115) rfl (hb hby at_105) rfl (teq hc105_2).1 (by decide) (by decide) ?_
        show Steps p.tables e below (T38.setTop (mkF m 115 #[.val (.int xn), .val (.int xa), .val (.int p0), .val (.int p1), .val (.int p2), .val (.int (3 : Int32)), .val (.int av), .val (.int v0), .val (.int v1), .val (.int v2), .val (.ref ca), .val (.int dw), .unset, .unset] [])) tgt
        refine XS.iload X38.here hx rfl (hb hby at_115) rfl ?_
        show Steps p.tables e below (T38.setTop (mkF m 117 #[.val (.int xn), .val (.int xa), .val (.int p0), .val (.int p1), .val (.int p2), .val (.int (3 : Int32)), .val (.int av), .val (.int v0), .val (.int v1), .val (.int v2), .val (.ref ca), .val (.int dw), .unset, .unset] [(.int av)])) tgt
        refine XS.iconst X38.here hx rfl (hb hby at_117) ?_
        show Steps p.tables e below (T38.setTop (mkF m 118 #[.val (.int xn), .val (.int xa), .val (.int p0), .val (.int p1), .val (.int p2), .val (.int (3 : Int32)), .val (.int av), .val (.int v0), .val (.int v1), .val (.int v2), .val (.ref ca), .val (.int dw), .unset, .unset] [(.int (1 : Int32)), (.int av)])) tgt
        refine XS.iadd X38.here hx rfl (hb hby at_118) rfl ?_
        show Steps p.tables e below (T38.setTop (mkF m 119 #[.val (.int xn), .val (.int xa), .val (.int p0), .val (.int p1), .val (.int p2), .val (.int (3 : Int32)), .val (.int av), .val (.int v0), .val (.int v1), .val (.int v2), .val (.ref ca), .val (.int dw), .unset, .unset] [(.int (av + (1 : Int32)))])) tgt
        refine XS.goto X38.here hx rfl (pc0 := 119) (pc' := 124) rfl (hb hby at_119) (by decide) (by decide) ?_
        rw [hxe] at k
        exact k
      · skip
        rw [if_neg hc105_2] at hxe
        show Steps p.tables e below (T38.setTop (mkF m 105 #[.val (.int xn), .val (.int xa), .val (.int p0), .val (.int p1), .val (.int p2), .val (.int (3 : Int32)), .val (.int av), .val (.int v0), .val (.int v1), .val (.int v2), .val (.ref ca), .val (.int dw), .unset, .unset] [(.int (43 : Int32)), (.int dw)])) tgt
        refine XS.icmpNo X38.here hx rfl (hb hby at_105) rfl (feq hc105_2).1 ?_
        show Steps p.tables e below (T38.setTop (mkF m 108 #[.val (.int xn), .val (.int xa), .val (.int p0), .val (.int p1), .val (.int p2), .val (.int (3 : Int32)), .val (.int av), .val (.int v0), .val (.int v1), .val (.int v2), .val (.ref ca), .val (.int dw), .unset, .unset] [])) tgt
        refine XS.iload X38.here hx rfl (hb hby at_108) rfl ?_
        show Steps p.tables e below (T38.setTop (mkF m 110 #[.val (.int xn), .val (.int xa), .val (.int p0), .val (.int p1), .val (.int p2), .val (.int (3 : Int32)), .val (.int av), .val (.int v0), .val (.int v1), .val (.int v2), .val (.ref ca), .val (.int dw), .unset, .unset] [(.int dw)])) tgt
        refine XS.bipush X38.here hx rfl (hb hby at_110) ?_
        by_cases hc112 : dw = (45 : Int32)
        · skip
          rw [if_pos hc112] at hxe
          show Steps p.tables e below (T38.setTop (mkF m 112 #[.val (.int xn), .val (.int xa), .val (.int p0), .val (.int p1), .val (.int p2), .val (.int (3 : Int32)), .val (.int av), .val (.int v0), .val (.int v1), .val (.int v2), .val (.ref ca), .val (.int dw), .unset, .unset] [(.int (45 : Int32)), (.int dw)])) tgt
          refine XS.icmpNo X38.here hx rfl (hb hby at_112) rfl (teq hc112).2 ?_
          show Steps p.tables e below (T38.setTop (mkF m 115 #[.val (.int xn), .val (.int xa), .val (.int p0), .val (.int p1), .val (.int p2), .val (.int (3 : Int32)), .val (.int av), .val (.int v0), .val (.int v1), .val (.int v2), .val (.ref ca), .val (.int dw), .unset, .unset] [])) tgt
          refine XS.iload X38.here hx rfl (hb hby at_115) rfl ?_
          show Steps p.tables e below (T38.setTop (mkF m 117 #[.val (.int xn), .val (.int xa), .val (.int p0), .val (.int p1), .val (.int p2), .val (.int (3 : Int32)), .val (.int av), .val (.int v0), .val (.int v1), .val (.int v2), .val (.ref ca), .val (.int dw), .unset, .unset] [(.int av)])) tgt
          refine XS.iconst X38.here hx rfl (hb hby at_117) ?_
          show Steps p.tables e below (T38.setTop (mkF m 118 #[.val (.int xn), .val (.int xa), .val (.int p0), .val (.int p1), .val (.int p2), .val (.int (3 : Int32)), .val (.int av), .val (.int v0), .val (.int v1), .val (.int v2), .val (.ref ca), .val (.int dw), .unset, .unset] [(.int (1 : Int32)), (.int av)])) tgt
          refine XS.iadd X38.here hx rfl (hb hby at_118) rfl ?_
          show Steps p.tables e below (T38.setTop (mkF m 119 #[.val (.int xn), .val (.int xa), .val (.int p0), .val (.int p1), .val (.int p2), .val (.int (3 : Int32)), .val (.int av), .val (.int v0), .val (.int v1), .val (.int v2), .val (.ref ca), .val (.int dw), .unset, .unset] [(.int (av + (1 : Int32)))])) tgt
          refine XS.goto X38.here hx rfl (pc0 := 119) (pc' := 124) rfl (hb hby at_119) (by decide) (by decide) ?_
          rw [hxe] at k
          exact k
        · skip
          rw [if_neg hc112] at hxe
          show Steps p.tables e below (T38.setTop (mkF m 112 #[.val (.int xn), .val (.int xa), .val (.int p0), .val (.int p1), .val (.int p2), .val (.int (3 : Int32)), .val (.int av), .val (.int v0), .val (.int v1), .val (.int v2), .val (.ref ca), .val (.int dw), .unset, .unset] [(.int (45 : Int32)), (.int dw)])) tgt
          refine XS.icmpYes X38.here hx rfl (pc0 := 112) (pc' := 122) rfl (hb hby at_112) rfl (feq hc112).2 (by decide) (by decide) ?_
          show Steps p.tables e below (T38.setTop (mkF m 122 #[.val (.int xn), .val (.int xa), .val (.int p0), .val (.int p1), .val (.int p2), .val (.int (3 : Int32)), .val (.int av), .val (.int v0), .val (.int v1), .val (.int v2), .val (.ref ca), .val (.int dw), .unset, .unset] [])) tgt
          refine XS.iload X38.here hx rfl (hb hby at_122) rfl ?_
          rw [hxe] at k
          exact k
    refine own_st (V := T38.setTop (mkF m 130 #[.val (.int xn), .val (.int xa), .val (.int p0), .val (.int p1), .val (.int p2), .val (.int (3 : Int32)), .val (.int av), .val (.int v0), .val (.int v1), .val (.int v2), .val (.ref ca), .val (.int dw), .val (.int xe), .unset] [(.int av), (.ref ca)])) (fun tgt k => ?_) ?_
    · show Steps p.tables e below (T38.setTop (mkF m 124 #[.val (.int xn), .val (.int xa), .val (.int p0), .val (.int p1), .val (.int p2), .val (.int (3 : Int32)), .val (.int av), .val (.int v0), .val (.int v1), .val (.int v2), .val (.ref ca), .val (.int dw), .unset, .unset] [(.int xe)])) tgt
      refine XS.istore X38.here hx rfl (hb hby at_124) rfl (l' := #[.val (.int xn), .val (.int xa), .val (.int p0), .val (.int p1), .val (.int p2), .val (.int (3 : Int32)), .val (.int av), .val (.int v0), .val (.int v1), .val (.int v2), .val (.ref ca), .val (.int dw), .val (.int xe), .unset]) rfl ?_
      show Steps p.tables e below (T38.setTop (mkF m 126 #[.val (.int xn), .val (.int xa), .val (.int p0), .val (.int p1), .val (.int p2), .val (.int (3 : Int32)), .val (.int av), .val (.int v0), .val (.int v1), .val (.int v2), .val (.ref ca), .val (.int dw), .val (.int xe), .unset] [])) tgt
      refine XS.aload X38.here hx rfl (hb hby at_126) rfl rfl ?_
      show Steps p.tables e below (T38.setTop (mkF m 128 #[.val (.int xn), .val (.int xa), .val (.int p0), .val (.int p1), .val (.int p2), .val (.int (3 : Int32)), .val (.int av), .val (.int v0), .val (.int v1), .val (.int v2), .val (.ref ca), .val (.int dw), .val (.int xe), .unset] [(.ref ca)])) tgt
      refine XS.iload X38.here hx rfl (hb hby at_128) rfl ?_
      exact k
    obtain ⟨_, _, ⟨T39, L39, k39, n39⟩, -, X39, ⟨Lc39, hQ39, l39, y39, z39⟩, st39⟩ := Jvm.LawKit.callS X38 hx (y := (⟨"com/example/tidewatch/tidewatch/io/Decimal", "skipSign", "([BI)I"⟩ : MethodName)) hown (mvT hZ (hw _ (List.mem_of_getElem? (i := 8) rfl))) (mvT hZ (hw _ (List.mem_of_getElem? (i := 9) rfl))) (mvT hZ (hw _ (List.mem_of_getElem? (i := 10) rfl))) (mvT hZ (hw _ (List.mem_of_getElem? (i := 11) rfl))) (by decide) (backOf (W := 0) (rm3 l Z a0 hw [] ca av (3 : Int32) 3 (own_up (own_up (own_up (fun _ => 0) 0 v0) 1 v1) 2 v2) h36 n0 Zs36 Af_ca_37 (by decide) hav0) hZ (hw _ (List.mem_of_getElem? (i := 11) rfl)) (hw _ (List.mem_of_getElem? (i := 10) rfl)) (by decide) (by decide)) (g := (mkF m 130 #[.val (.int xn), .val (.int xa), .val (.int p0), .val (.int p1), .val (.int p2), .val (.int (3 : Int32)), .val (.int av), .val (.int v0), .val (.int v1), .val (.int v2), .val (.ref ca), .val (.int dw), .val (.int xe), .unset] [(.int av), (.ref ca)])) rfl (by rw [hml]; rfl) (argsL := [(.ref ca), (.int av)]) (rest := []) (lenOf pd_0_2 rfl) rfl (by show 2 * 0 + _ ≤ _; exact Nat.le_of_eq rfl) (hb hby at_130) (fun _ _ => ⟨rfl, K38, (by decide : 1 + 0 ≤ _), (by decide : 3 + 0 ≤ _)⟩)
    dsimp only [Pt.U, Pt.locs, Pt.cells, Pt.slots] at X39 l39 y39 z39 st39 hQ39
    subst l39 y39 z39
    obtain ⟨rfl, N39q, K39⟩ := hQ39
    have N39 := Fr.app N38 N39q
    refine own_st st39 ?_
    show own_Go p e below _ (T39.setTop (mkF m 133 #[.val (.int xn), .val (.int xa), .val (.int p0), .val (.int p1), .val (.int p2), .val (.int (3 : Int32)), .val (.int av), .val (.int v0), .val (.int v1), .val (.int v2), .val (.ref ca), .val (.int dw), .val (.int xe), .unset] [(.int (own_skip (own_up (own_up (own_up (fun _ => 0) 0 v0) 1 v1) 2 v2) av (3 : Int32)))]))
    refine own_st (V := T39.setTop (mkF m 147 #[.val (.int xn), .val (.int xa), .val (.int p0), .val (.int p1), .val (.int p2), .val (.int (3 : Int32)), .val (.int av), .val (.int v0), .val (.int v1), .val (.int v2), .val (.ref ca), .val (.int dw), .val (.int xe), .val (.int (own_skip (own_up (own_up (own_up (fun _ => 0) 0 v0) 1 v1) 2 v2) av (3 : Int32)))] [(.int (1 : Int32))])) (fun tgt k => ?_) ?_
    · show Steps p.tables e below (T39.setTop (mkF m 133 #[.val (.int xn), .val (.int xa), .val (.int p0), .val (.int p1), .val (.int p2), .val (.int (3 : Int32)), .val (.int av), .val (.int v0), .val (.int v1), .val (.int v2), .val (.ref ca), .val (.int dw), .val (.int xe), .unset] [(.int (own_skip (own_up (own_up (own_up (fun _ => 0) 0 v0) 1 v1) 2 v2) av (3 : Int32)))])) tgt
      refine XS.istore X39.here hx rfl (hb hby at_133) rfl (l' := #[.val (.int xn), .val (.int xa), .val (.int p0), .val (.int p1), .val (.int p2), .val (.int (3 : Int32)), .val (.int av), .val (.int v0), .val (.int v1), .val (.int v2), .val (.ref ca), .val (.int dw), .val (.int xe), .val (.int (own_skip (own_up (own_up (own_up (fun _ => 0) 0 v0) 1 v1) 2 v2) av (3 : Int32)))]) rfl ?_
      show Steps p.tables e below (T39.setTop (mkF m 135 #[.val (.int xn), .val (.int xa), .val (.int p0), .val (.int p1), .val (.int p2), .val (.int (3 : Int32)), .val (.int av), .val (.int v0), .val (.int v1), .val (.int v2), .val (.ref ca), .val (.int dw), .val (.int xe), .val (.int (own_skip (own_up (own_up (own_up (fun _ => 0) 0 v0) 1 v1) 2 v2) av (3 : Int32)))] [])) tgt
      refine XS.iload X39.here hx rfl (hb hby at_135) rfl ?_
      show Steps p.tables e below (T39.setTop (mkF m 137 #[.val (.int xn), .val (.int xa), .val (.int p0), .val (.int p1), .val (.int p2), .val (.int (3 : Int32)), .val (.int av), .val (.int v0), .val (.int v1), .val (.int v2), .val (.ref ca), .val (.int dw), .val (.int xe), .val (.int (own_skip (own_up (own_up (own_up (fun _ => 0) 0 v0) 1 v1) 2 v2) av (3 : Int32)))] [(.int (own_skip (own_up (own_up (own_up (fun _ => 0) 0 v0) 1 v1) 2 v2) av (3 : Int32)))])) tgt
      refine XS.iload X39.here hx rfl (hb hby at_137) rfl ?_
      show Steps p.tables e below (T39.setTop (mkF m 139 #[.val (.int xn), .val (.int xa), .val (.int p0), .val (.int p1), .val (.int p2), .val (.int (3 : Int32)), .val (.int av), .val (.int v0), .val (.int v1), .val (.int v2), .val (.ref ca), .val (.int dw), .val (.int xe), .val (.int (own_skip (own_up (own_up (own_up (fun _ => 0) 0 v0) 1 v1) 2 v2) av (3 : Int32)))] [(.int xe), (.int (own_skip (own_up (own_up (own_up (fun _ => 0) 0 v0) 1 v1) 2 v2) av (3 : Int32)))])) tgt
      refine XS.icmpNo X39.here hx rfl (hb hby at_139) rfl (teq (by rw [hxe, hdw]; exact own_fin _ _ _ _ _ _ hav0 (by decide) (by first | exact fun _ => rfl | exact fun h => absurd h (by decide)) (by first | exact fun _ => rfl | exact fun h => absurd h (by decide)) (by first | exact fun _ => rfl | exact fun h => absurd h (by decide)))).2 ?_
      show Steps p.tables e below (T39.setTop (mkF m 142 #[.val (.int xn), .val (.int xa), .val (.int p0), .val (.int p1), .val (.int p2), .val (.int (3 : Int32)), .val (.int av), .val (.int v0), .val (.int v1), .val (.int v2), .val (.ref ca), .val (.int dw), .val (.int xe), .val (.int (own_skip (own_up (own_up (own_up (fun _ => 0) 0 v0) 1 v1) 2 v2) av (3 : Int32)))] [])) tgt
      refine XS.iconst X39.here hx rfl (hb hby at_142) ?_
      show Steps p.tables e below (T39.setTop (mkF m 143 #[.val (.int xn), .val (.int xa), .val (.int p0), .val (.int p1), .val (.int p2), .val (.int (3 : Int32)), .val (.int av), .val (.int v0), .val (.int v1), .val (.int v2), .val (.ref ca), .val (.int dw), .val (.int xe), .val (.int (own_skip (own_up (own_up (own_up (fun _ => 0) 0 v0) 1 v1) 2 v2) av (3 : Int32)))] [(.int (1 : Int32))])) tgt
      refine XS.goto X39.here hx rfl (pc0 := 143) (pc' := 147) rfl (hb hby at_143) (by decide) (by decide) ?_
      exact k
    refine own_retN X39 hx hlk (t := .boolean) (z' := (1 : Int32)) Bd.returns (by simp) rfl (hb hby at_147) ?_ (by decide) (by decide)
    show Q0 Z xn xa p0 p1 p2 h0 n0 (some (.int (1 : Int32))) T39.heap _
    rw [K39]
    exact ⟨rfl, N39⟩
set_option maxRecDepth 65536 in
set_option maxHeartbeats 40000000 in
theorem comes_1 {Post : Tables → Env → Array Value → State → Outcome → State → Prop} (hpost : ∀ tb e args s v u, (limb_1_1.after args s (.returned v) u = true ∧ limb_1_2.after args s (.returned v) u = true ∧ True) → FrameEnd s (.returned v) u (Jvm.fieldLocs frame_1_writes args s ++ Jvm.arrayLocs frame_1_arrays args s ++ Jvm.staticLocs frame_1_statics s) 16 128 → Post tb e args s (.returned v) u) :
    ArmFor flags0 classFile x code maxLocals ret World_1 tables_1 room_1 Calls_1 rest_1 Pre_1 Post := by
  intro l hfl _ _ p e ha hc hk s m args below hf hA hF happ hP
  obtain ⟨hcalls, hrest, hpre⟩ := hP
  obtain ⟨-, -, -, hnamed, -, -, -, hat⟩ := (Spec.applies_iff hf).mp happ
  obtain ⟨hg, hn⟩ := and_e (Cond.before_iff.mp (show (Jvm.Cond.and given_1 narrow_1).before args s = true from hpre))
  obtain ⟨hcount, g0⟩ := and_e hg
  obtain ⟨a0, g1⟩ := and_e g0
  obtain ⟨a1, g2⟩ := and_e g1
  obtain ⟨a2, g3⟩ := and_e g2
  obtain ⟨a3, g4⟩ := and_e g3
  have a4 := g4
  obtain ⟨w0, w1, w2, w3, w4, rfl⟩ : ∃ w0 w1 w2 w3 w4 : Value, args = #[w0, w1, w2, w3, w4] := by
    have hs : args.size = 5 := by simpa [Cond.value, given_1] using hcount
    obtain ⟨L⟩ := args
    match L, hs with
    | [w0, w1, w2, w3, w4], _ => exact ⟨w0, w1, w2, w3, w4, rfl⟩
  have hw := fun d (hd : d ∈ tables_1) => atoms_spec (ws := Jvm.Cond.code x code maxLocals ret :: tables_1) hat d (List.mem_cons_of_mem _ hd)
  obtain ⟨i0, ei0⟩ := is_v a0
  obtain rfl : w0 = (.int i0) := Option.some.inj ei0
  obtain ⟨i1, ei1⟩ := is_v a1
  obtain rfl : w1 = (.int i1) := Option.some.inj ei1
  obtain ⟨i2, ei2⟩ := is_v a2
  obtain rfl : w2 = (.int i2) := Option.some.inj ei2
  obtain ⟨i3, ei3⟩ := is_v a3
  obtain rfl : w3 = (.int i3) := Option.some.inj ei3
  obtain ⟨i4, ei4⟩ := is_v a4
  obtain rfl : w4 = (.int i4) := Option.some.inj ei4
  obtain ⟨n, o, h1, h2, h3, _, L, rfl, ⟨rfl, N⟩, hq⟩ := rm0 l s _ hw tables_1 i0 i1 i2 i3 i4 s.heap s.heap.size (Nat.le_refl _) p e ha hc hk s m _ below hf ((Spec.applies_iff_loose hf).mp happ).1 ⟨rfl, State.Warmed39.refl s, rfl⟩ trivial
  refine ⟨n, _, h1, h2, h3, hpost _ _ _ _ _ _ ⟨Cond.after_iff.mpr rfl, Cond.after_iff.mpr (eq_i res_at (Term.int_eval (1)) rfl), trivial⟩ ⟨hq.1, hq.2.1, (hq.2.2.sift fun y hy => Or.inr (N y hy)).mono (by decide) (by decide)⟩⟩
theorem main_1_1 : Claimed_1_1 := comes_1 fun _ _ _ _ _ _ h hF => ⟨h.1, hF⟩
theorem main_1_2 : Claimed_1_2 := comes_1 fun _ _ _ _ _ _ h hF => ⟨h.2.1, hF⟩
end Jvm.Pilot.@@N@@
namespace Jvm.Pilot.@@N@@
open Jvm Jvm.ClassFile Sem Op Lib Jvm.Free Jvm.Stand Jvm.Pilot.@@N@@.Jvm.D
/-! MADE BY PROGRAM (witnessworld.py) out of the Statement's table words and the real class files: 10 classes; the members and pool entries that the words name. The judged class is class 1, her method 3. -/
namespace start1
open Jvm.ClassFile
def u (s : String) : CpInfo := .utf8 (stringToUtf16 s)
/-- a pool by its gaps: so many unusable entries, then the entry; so many at the end -/
def gap : Nat → List CpInfo → List CpInfo
  | 0, r => r
  | n + 1, r => .unusable :: gap n r
def poolList (es : List (Nat × CpInfo)) (last : Nat) : List CpInfo := es.foldr (fun e r => gap e.1 (e.2 :: r)) (gap last [])
def pool (es : List (Nat × CpInfo)) (last : Nat) : Array CpInfo := ⟨poolList es last⟩
def fileOf (pool : Array CpInfo) (this : Nat) (attrs : Array Attribute := #[]) (ms : Array MethodInfo := #[]) (fl : Nat := 33) (sup : Nat := 0) (ifs : Array Nat := #[]) (fds : Array FieldInfo := #[]) : ClassFile where
  minorVersion := 0
  majorVersion := 65
  constantPool := pool
  accessFlags := fl
  thisClass := this
  superClass := sup
  interfaces := ifs
  fields := fds
  methods := ms
  attributes := attrs
def plain (name : String) (sup : Option ClassId) : Class where
  name := name
  kind := .ordinary
  loader := none
  accessFlags := 33
  super := sup
  interfaces := #[]
  cf := none
  fields := #[]
  methods := #[]
  instanceTypes := #[]
  staticTypes := #[]
  resolved := #[]
  callSites := []
  init := .initialized
  statics := none
  mirror := none

def pool0 : Array CpInfo := pool [(5, u "<init>"), (0, u "()V"), (1, .class_ 10), (1, u "java/lang/Object")] 113

def k0m0 : Method := { name := "<init>", desc := "()V", sig := { parameters := [], returnType := none }, accessFlags := 1, code := none }
/-- java/lang/Object -/
def k0 : Class := { plain "java/lang/Object" none with
  accessFlags := 33
  interfaces := #[]
  cf := some (fileOf pool0 8 #[] #[{ accessFlags := 1, nameIndex := 5, descriptorIndex := 6, attributes := #[] }] 33 0 #[] #[])
  fields := #[]
  methods := #[k0m0]
  instanceTypes := #[]
  staticTypes := #[]
  resolved := Array.replicate 124 none
  statics := none }

def pool1 : Array CpInfo := pool [(2, .class_ 4), (1, u "java/lang/Object"), (0, u "<init>"), (0, u "()V"), (0, .integer 2147483647), (0, .methodref 9 10), (0, .class_ 11), (0, .nameAndType 12 13), (0, u "com/example/tidewatch/tidewatch/io/DecimalSkipSignPinLaw"), (0, u "pick"), (0, u "(I)I"), (0, .methodref 9 15), (0, .nameAndType 16 17), (0, u "drawnAt"), (0, u "(IIIII)I"), (0, .methodref 19 20), (0, .class_ 21), (0, .nameAndType 22 23), (0, u "com/example/tidewatch/tidewatch/io/Decimal"), (0, u "skipSign"), (0, u "([BI)I"), (3, u "law"), (0, u "(IIIII)Z")] 4

def k1m0 : Method := { name := "<init>", desc := "()V", sig := { parameters := [], returnType := none }, accessFlags := 2, code := none }
def k1c1 : Code := { maxStack := 2, maxLocals := 2, code := method_2_code, exceptionTable := #[], attributes := #[] }
def k1m1 : Method := { name := "pick", desc := "(I)I", sig := { parameters := [.int], returnType := some .int }, accessFlags := 10, code := some k1c1 }
def k1c2 : Code := { maxStack := 2, maxLocals := 5, code := method_3_code, exceptionTable := #[], attributes := #[] }
def k1m2 : Method := { name := "drawnAt", desc := "(IIIII)I", sig := { parameters := [.int, .int, .int, .int, .int], returnType := some .int }, accessFlags := 10, code := some k1c2 }
def k1c3 : Code := { maxStack := 5, maxLocals := 14, code := code, exceptionTable := #[], attributes := #[] }
def k1m3 : Method := { name := "law", desc := "(IIIII)Z", sig := { parameters := [.int, .int, .int, .int, .int], returnType := some .boolean }, accessFlags := 9, code := some k1c3 }
/-- com/example/tidewatch/tidewatch/io/DecimalSkipSignPinLaw -/
def k1 : Class := { plain "com/example/tidewatch/tidewatch/io/DecimalSkipSignPinLaw" (some 0) with
  accessFlags := 49
  interfaces := #[]
  cf := some (fileOf pool1 9 #[] #[{ accessFlags := 2, nameIndex := 5, descriptorIndex := 6, attributes := #[] }, { accessFlags := 10, nameIndex := 12, descriptorIndex := 13, attributes := #[] }, { accessFlags := 10, nameIndex := 16, descriptorIndex := 17, attributes := #[] }, { accessFlags := 9, nameIndex := 27, descriptorIndex := 28, attributes := #[] }] 49 2 #[] #[])
  fields := #[]
  methods := #[k1m0, k1m1, k1m2, k1m3]
  instanceTypes := #[]
  staticTypes := #[]
  resolved := Array.replicate 33 none
  statics := none }

def pool2 : Array CpInfo := pool [(1, .class_ 2), (0, u "java/lang/Comparable"), (0, .class_ 4), (0, u "java/lang/Object")] 7

/-- java/lang/Comparable -/
def k2 : Class := { plain "java/lang/Comparable" (some 0) with
  accessFlags := 1537
  interfaces := #[]
  cf := some (fileOf pool2 1 #[] #[] 1537 3 #[] #[])
  fields := #[]
  methods := #[]
  instanceTypes := #[]
  staticTypes := #[]
  resolved := Array.replicate 12 none
  statics := none }

def pool3 : Array CpInfo := pool [(2, .class_ 4), (1, u "java/lang/Object"), (3, .class_ 10), (1, u "com/example/tidewatch/tidewatch/io/Decimal"), (0, u "negative"), (0, u "Z"), (2, u "compact"), (0, u "J"), (2, u "digits"), (0, u "[B"), (2, u "exponent"), (0, u "I"), (14, u "skipSign"), (0, u "([BI)I"), (26, u "ZERO"), (0, u "Lcom/example/tidewatch/tidewatch/io/Decimal;"), (34, u "OVERFLOW"), (6, u "UNDERFLOW"), (64, u "TENS"), (0, u "[J"), (52, .class_ 230), (0, u "java/lang/Comparable"), (0, u "COMPACT_DIGITS"), (2, u "FARTHEST_POWER")] 17

def k3c0 : Code := { maxStack := 2, maxLocals := 3, code := prog_30_method_3_code, exceptionTable := #[], attributes := #[] }
def k3m0 : Method := { name := "skipSign", desc := "([BI)I", sig := { parameters := [(.array .byte), .int], returnType := some .int }, accessFlags := 8, code := some k3c0 }
/-- com/example/tidewatch/tidewatch/io/Decimal -/
def k3 : Class := { plain "com/example/tidewatch/tidewatch/io/Decimal" (some 0) with
  accessFlags := 48
  interfaces := #[2]
  cf := some (fileOf pool3 8 #[] #[{ accessFlags := 8, nameIndex := 39, descriptorIndex := 40, attributes := #[] }] 48 2 #[229] #[{ accessFlags := 24, nameIndex := 67, descriptorIndex := 68, attributes := #[] }, { accessFlags := 26, nameIndex := 231, descriptorIndex := 24, attributes := #[] }, { accessFlags := 26, nameIndex := 175, descriptorIndex := 176, attributes := #[] }, { accessFlags := 26, nameIndex := 234, descriptorIndex := 16, attributes := #[] }, { accessFlags := 26, nameIndex := 103, descriptorIndex := 68, attributes := #[] }, { accessFlags := 26, nameIndex := 110, descriptorIndex := 68, attributes := #[] }, { accessFlags := 18, nameIndex := 11, descriptorIndex := 12, attributes := #[] }, { accessFlags := 18, nameIndex := 15, descriptorIndex := 16, attributes := #[] }, { accessFlags := 18, nameIndex := 19, descriptorIndex := 20, attributes := #[] }, { accessFlags := 18, nameIndex := 23, descriptorIndex := 24, attributes := #[] }])
  fields := #[{ name := "ZERO", type := (.object "com/example/tidewatch/tidewatch/io/Decimal"), accessFlags := 24, slot := 0, constantValue := 0 }, { name := "COMPACT_DIGITS", type := .int, accessFlags := 26, slot := 1, constantValue := 0 }, { name := "TENS", type := (.array .long), accessFlags := 26, slot := 2, constantValue := 0 }, { name := "FARTHEST_POWER", type := .long, accessFlags := 26, slot := 3, constantValue := 0 }, { name := "OVERFLOW", type := (.object "com/example/tidewatch/tidewatch/io/Decimal"), accessFlags := 26, slot := 4, constantValue := 0 }, { name := "UNDERFLOW", type := (.object "com/example/tidewatch/tidewatch/io/Decimal"), accessFlags := 26, slot := 5, constantValue := 0 }, { name := "negative", type := .boolean, accessFlags := 18, slot := 0, constantValue := 0 }, { name := "compact", type := .long, accessFlags := 18, slot := 1, constantValue := 0 }, { name := "digits", type := (.array .byte), accessFlags := 18, slot := 2, constantValue := 0 }, { name := "exponent", type := .int, accessFlags := 18, slot := 3, constantValue := 0 }]
  methods := #[k3m0]
  instanceTypes := #[.boolean, .long, (.array .byte), .int]
  staticTypes := #[(.object "com/example/tidewatch/tidewatch/io/Decimal"), .int, (.array .long), .long, (.object "com/example/tidewatch/tidewatch/io/Decimal"), (.object "com/example/tidewatch/tidewatch/io/Decimal")]
  resolved := Array.replicate 252 none
  statics := none }

def pool4 : Array CpInfo := pool [(1, u "java/lang/Cloneable"), (0, .class_ 1), (0, u "java/lang/Object"), (0, .class_ 3)] 3

/-- java/lang/Cloneable -/
def k4 : Class := { plain "java/lang/Cloneable" (some 0) with
  accessFlags := 1537
  interfaces := #[]
  cf := some (fileOf pool4 2 #[] #[] 1537 4 #[] #[])
  fields := #[]
  methods := #[]
  instanceTypes := #[]
  staticTypes := #[]
  resolved := Array.replicate 8 none
  statics := none }

def pool5 : Array CpInfo := pool [(1, u "java/io/Serializable"), (0, .class_ 1), (0, u "java/lang/Object"), (0, .class_ 3)] 3

/-- java/io/Serializable -/
def k5 : Class := { plain "java/io/Serializable" (some 0) with
  accessFlags := 1537
  interfaces := #[]
  cf := some (fileOf pool5 2 #[] #[] 1537 4 #[] #[])
  fields := #[]
  methods := #[]
  instanceTypes := #[]
  staticTypes := #[]
  resolved := Array.replicate 8 none
  statics := none }

/-- the primitive byte -/
def k6 : Class := { plain "byte" none with kind := .primitive 'B', accessFlags := 0x411 }
/-- [B -/
def k7 : Class := { plain "[B" (some 0) with kind := .array 6 .byte, interfaces := #[4, 5], accessFlags := 1041 }

/-- the primitive int -/
def k8 : Class := { plain "int" none with kind := .primitive 'I', accessFlags := 0x411 }
/-- [I -/
def k9 : Class := { plain "[I" (some 0) with kind := .array 8 .int, interfaces := #[4, 5], accessFlags := 1041 }

def heap : Heap := #[]
def classes : Array Class := #[k0, k1, k2, k3, k4, k5, k6, k7, k8, k9]
def interned : List (Array UInt16 × Addr) := []
def slotsUsed : Nat := 0
def theMethod : MethodId := ⟨1, 3⟩
def args0 : Array Value := #[.int 5, .int 3, .int 3, .int 1, .int 2]
def aboutOver (below : List Frame) : State where
  vm := { classes := classes, interned := interned.toArray }
  heap := heap
  slotsUsed := slotsUsed
  threads := #[{ frames := .invoking theMethod args0 :: below }]
def below0 : List Frame := [.native { method := ⟨0, 0⟩, args := #[] }]
def about1 : State := aboutOver below0
def p0 : Program := .bare "" "" ""
def e0 : Env := launch0.env 0 0 0
theorem w_frames : about1.frames = Frame.invoking theMethod args0 :: below0 := rfl
set_option maxRecDepth 65536 in
theorem w_args : argsFit about1.vm theMethod args0 = true := by decide +kernel
set_option maxRecDepth 65536 in
theorem w_heap : heapFits about1 = true := by decide +kernel
set_option maxRecDepth 65536 in
theorem w_runnable : about1.curStatus? = some .runnable := by decide +kernel
set_option maxRecDepth 65536 in
theorem w_alone : about1.alone = true := by decide +kernel
set_option maxRecDepth 65536 in
theorem w_named : about1.methodNamed? x = some theMethod := by decide +kernel
set_option maxRecDepth 65536 in
theorem w_hears : about1.hears theMethod below0 = true := by decide +kernel
set_option maxRecDepth 65536 in
theorem w_ripe : about1.ripe theMethod args0 below0 = true := by decide +kernel
theorem w_running : about1.status = .running := rfl
set_option maxRecDepth 65536 in
theorem w_room : about1.hasRoom e0.platform room_1 = true :=
  launch0.hasRoom_least _ room_1 (by decide +kernel) (by decide +kernel) (by decide +kernel) (by decide +kernel) (by decide +kernel) (by decide +kernel)
theorem allAtoms_all (ts : List Jvm.Cond) (a : Array Jvm.Value) (st : Jvm.State) : (allAtoms ts).before a st = ts.all (fun c => c.before a st) := by
  induction ts with
  | nil => rfl
  | cons c t ih =>
    show (Jvm.Cond.and c (allAtoms t)).before a st = _
    rw [Jvm.Cond.before_and, ih, List.all_cons]
def words1 : List Jvm.Cond := Jvm.Cond.code x code maxLocals ret :: tables_1
/-- a 'code' word, met by the world's own term for the bytes: nothing is compared byte by byte -/
theorem code_word {y : MethodName} {bytes : ByteArray} {mx : Nat} {rt : Option FieldType} {a : Array Value} {s : State} {m : MethodId} {meth : Method} {c : Code} (h1 : s.methodNamed? y = some m) (h2 : s.vm.method? m = some meth) (h3 : meth.code = some c) (h4 : c.code = bytes)
    (h5 : (c.maxLocals == mx && c.exceptionTable.isEmpty && decide (c.maxStack ≤ mostOperands) && decide (meth.sig.returnType = rt) && !meth.locks && decide (parseMethodDescriptor y.desc = some meth.sig)) = true) : (Jvm.Cond.code y bytes mx rt).before a s = true := by
  simp only [Bool.and_eq_true, beq_iff_eq, Bool.not_eq_true', decide_eq_true_eq] at h5
  obtain ⟨⟨⟨⟨⟨g1, g2⟩, g3⟩, g4⟩, g5⟩, g6⟩ := h5
  simp [Cond.before, Cond.holds, Cond.value, h1, h2, h3, h4, g1, g2, g3, g4, g5, g6]
def isCode : Jvm.Cond → Bool
  | .code _ _ _ _ => true
  | _ => false
theorem all_split {L : List Jvm.Cond} {P : Jvm.Cond → Bool} (h1 : L.all (fun c => isCode c || P c) = true) (h2 : ∀ c ∈ L.filter isCode, P c = true) : L.all P = true := by
  refine List.all_eq_true.mpr fun c hc => ?_
  have h := List.all_eq_true.mp h1 c hc
  rcases Bool.eq_false_or_eq_true (isCode c) with hi | hi
  · exact h2 c (List.mem_filter.mpr ⟨hc, hi⟩)
  · simpa [hi] using h
set_option maxRecDepth 65536 in
theorem w_c0 : (Jvm.Cond.code x code maxLocals ret).before args0 about1 = true := code_word (m := ⟨1, 3⟩) (meth := k1m3) (c := k1c3) (by decide +kernel) rfl rfl rfl (by decide +kernel)
set_option maxRecDepth 65536 in
theorem w_c1 : (Jvm.Cond.code ({ cls := "com/example/tidewatch/tidewatch/io/DecimalSkipSignPinLaw", name := "pick", desc := "(I)I" } : Jvm.MethodName) method_2_code (2 : Nat) (Option.some Jvm.ClassFile.FieldType.int)).before args0 about1 = true := code_word (m := ⟨1, 1⟩) (meth := k1m1) (c := k1c1) (by decide +kernel) rfl rfl rfl (by decide +kernel)
set_option maxRecDepth 65536 in
theorem w_c2 : (Jvm.Cond.code ({ cls := "com/example/tidewatch/tidewatch/io/DecimalSkipSignPinLaw", name := "drawnAt", desc := "(IIIII)I" } : Jvm.MethodName) method_3_code (5 : Nat) (Option.some Jvm.ClassFile.FieldType.int)).before args0 about1 = true := code_word (m := ⟨1, 2⟩) (meth := k1m2) (c := k1c2) (by decide +kernel) rfl rfl rfl (by decide +kernel)
set_option maxRecDepth 65536 in
theorem w_c3 : (Jvm.Cond.code ({ cls := "com/example/tidewatch/tidewatch/io/Decimal", name := "skipSign", desc := "([BI)I" } : Jvm.MethodName) prog_30_method_3_code (3 : Nat) (Option.some Jvm.ClassFile.FieldType.int)).before args0 about1 = true := code_word (m := ⟨3, 0⟩) (meth := k3m0) (c := k3c0) (by decide +kernel) rfl rfl rfl (by decide +kernel)
def codes1 : List Jvm.Cond := [Jvm.Cond.code x code maxLocals ret, Jvm.Cond.code ({ cls := "com/example/tidewatch/tidewatch/io/DecimalSkipSignPinLaw", name := "pick", desc := "(I)I" } : Jvm.MethodName) method_2_code (2 : Nat) (Option.some Jvm.ClassFile.FieldType.int), Jvm.Cond.code ({ cls := "com/example/tidewatch/tidewatch/io/DecimalSkipSignPinLaw", name := "drawnAt", desc := "(IIIII)I" } : Jvm.MethodName) method_3_code (5 : Nat) (Option.some Jvm.ClassFile.FieldType.int), Jvm.Cond.code ({ cls := "com/example/tidewatch/tidewatch/io/Decimal", name := "skipSign", desc := "([BI)I" } : Jvm.MethodName) prog_30_method_3_code (3 : Nat) (Option.some Jvm.ClassFile.FieldType.int)]
set_option maxRecDepth 65536 in
theorem codes_eq : words1.filter isCode = codes1 := rfl
theorem w_codes : ∀ c ∈ words1.filter isCode, c.before args0 about1 = true := by
  rw [codes_eq]
  intro c hc
  simp only [codes1, List.mem_cons, List.not_mem_nil, or_false] at hc
  rcases hc with rfl | rfl | rfl | rfl
  · exact w_c0
  · exact w_c1
  · exact w_c2
  · exact w_c3
set_option maxRecDepth 65536 in
theorem w_t1 : words1.all (fun c => isCode c || c.before args0 about1) = true := by decide +kernel
theorem w_tables : (allAtoms (Jvm.Cond.code x code maxLocals ret :: tables_1)).before args0 about1 = true := by
  rw [allAtoms_all]
  show words1.all (fun c => c.before args0 about1) = true
  refine all_split ?_ w_codes
  rw [w_t1]
set_option maxRecDepth 65536 in
theorem w_case : (Jvm.Cond.and given_1 narrow_1).before args0 about1 = true := by decide +kernel
theorem w_applies : (headSpec (Jvm.Cond.code x code maxLocals ret :: tables_1) room_1).applies x e0.platform about1 = true :=
  (Spec.applies_iff w_frames).mpr ⟨w_running, w_runnable, w_alone, w_named, w_hears, w_ripe, w_room, w_tables⟩
theorem atStart : AtStart classFile x code maxLocals ret World_1 tables_1 room_1 Calls_1 rest_1 Pre_1 launch0 p0 e0 about1 theMethod args0 below0 :=
  ⟨lists_1, trivial, launch0.admits_env _ _ _, launch0.least_env, fairChoices_fair.cas, fairChoices_fair.clock, w_frames, w_args, w_heap, w_applies, trivial, trivial, w_case⟩
end start1
theorem witness_1 : WitnessClaimed_1 := ⟨start1.p0, start1.e0, start1.about1, start1.theMethod, start1.args0, start1.below0, start1.atStart⟩
end Jvm.Pilot.@@N@@
