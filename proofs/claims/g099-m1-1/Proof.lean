import JvmDerived
import JvmDerived.Pilot.@@N@@Statement
import JvmDerived.Pilot.@@N@@Code
set_option linter.unusedVariables false
set_option linter.unusedSimpArgs false
namespace Jvm.RoadKit
open Sem ClassFile Op Lib Jvm.Stand Jvm.Free Jvm.LawKit
section Own
variable {p : Program} {l : Launch} {e : Env} {R : Room} {s : State} {m : MethodId} {args : Array Value} {below : List Frame} {meth : Method} {c : Code} {T : State} {locs : List Loc} {cells slots : Nat} {Z : State} {h h' : Heap} {a b : Addr}
/-- from the state U the method runs to its end, and what it leaves is as G says -/
def own_Go (p : Program) (e : Env) (below : List Frame) (G : Outcome → State → Prop) (U : State) : Prop := ∃ s₂ o, Steps p.tables e below U s₂ ∧ s₂.status = .running ∧ Ended s₂ below o ∧ G o s₂
def own_G (s : State) (Q : Option Value → Heap → List Loc → Prop) (C N : Nat) : Outcome → State → Prop := fun o U' => ∃ v L, o = .returned v ∧ Q v U'.heap L ∧ FrameEnd s o U' L C N
theorem own_st {G : Outcome → State → Prop} {U V : State} (hs : ∀ t, Steps p.tables e below V t → Steps p.tables e below U t) (k : own_Go p e below G V) : own_Go p e below G U := by
  obtain ⟨s₂, o, h1, h2⟩ := k
  exact ⟨s₂, o, hs _ h1, h2⟩
theorem own_retI (X : Stand p l e R s m args below meth c T locs cells slots) (hx : p.tables.exec = Jvm.exec) (hlocks : meth.locks = false) {pc : Nat} {Ls : Array Slot} {z : Int32} {rest : List Value} (hret : meth.sig.returnType = some .int) (hd : decode c.code pc = .ok (.ireturn, 1)) {Q : Option Value → Heap → List Loc → Prop} {C N : Nat}
    (hQ : Q (some (.int z)) T.heap locs) (hC : cells ≤ C) (hN : slots ≤ N) : own_Go p e below (own_G s Q C N) (T.setTop (mkF m pc Ls (.int z :: rest))) := by
  obtain ⟨fs, hr, hrun, hended, hW, hsame⟩ := X.leave (v := some (.int z)) (fun h => by rw [hret] at h; cases h)
  refine ⟨_, _, ?_, hrun, hended, _, _, rfl, hQ, ⟨_, rfl⟩, hW, hsame.mono hC hN⟩
  have hm' : T.vm.method? m = some meth := X.method'
  have hn : narrow .int (.int z) = .int z := rfl
  show Steps p.tables e below (T.setTop { method := m, pc := pc, locals := Ls, stack := _ :: rest, locked := none }) _
  jvm_step X.here [X.here.top, hx, hd, hm', hret, hn]
  first | (intro acts; rw [hr _ acts rfl rfl rfl]) | rw [hr _ _ rfl rfl rfl]
  exact Steps.refl _
theorem own_retN (X : Stand p l e R s m args below meth c T locs cells slots) (hx : p.tables.exec = Jvm.exec) (hlocks : meth.locks = false) {pc : Nat} {Ls : Array Slot} {z z' : Int32} {t : FieldType} {rest : List Value} (hret : meth.sig.returnType = some t) (ht : t = .boolean ∨ t = .byte ∨ t = .char ∨ t = .short) (hz : nar t z = z') (hd : decode c.code pc = .ok (.ireturn, 1)) {Q : Option Value → Heap → List Loc → Prop} {C N : Nat}
    (hQ : Q (some (.int z')) T.heap locs) (hC : cells ≤ C) (hN : slots ≤ N) : own_Go p e below (own_G s Q C N) (T.setTop (mkF m pc Ls (.int z :: rest))) := by
  subst hz
  obtain ⟨fs, hr, hrun, hended, hW, hsame⟩ := X.leave (v := some (.int (nar t z))) (fun h => by rw [hret] at h; cases h)
  exact ⟨_, _, retN X hx hret ht hd hr, hrun, hended, _, _, rfl, hQ, ⟨_, rfl⟩, hW, hsame.mono hC hN⟩
theorem own_retJ (X : Stand p l e R s m args below meth c T locs cells slots) (hx : p.tables.exec = Jvm.exec) (hlocks : meth.locks = false) {pc : Nat} {Ls : Array Slot} {z : Int64} (hret : meth.sig.returnType = some .long) (hd : decode c.code pc = .ok (.lreturn, 1)) {Q : Option Value → Heap → List Loc → Prop} {C N : Nat}
    (hQ : Q (some (.long z)) T.heap locs) (hC : cells ≤ C) (hN : slots ≤ N) : own_Go p e below (own_G s Q C N) (T.setTop (mkF m pc Ls [.long z])) := by
  obtain ⟨fs, hr, hrun, hended, hW, hsame⟩ := X.leave (v := some (.long z)) (fun h => by rw [hret] at h; cases h)
  exact ⟨_, _, X.lreturnOut hx hret hd hr, hrun, hended, _, _, rfl, hQ, ⟨_, rfl⟩, hW, hsame.mono hC hN⟩
theorem own_ret0 (X : Stand p l e R s m args below meth c T locs cells slots) (hx : p.tables.exec = Jvm.exec) (hlocks : meth.locks = false) {pc : Nat} {Ls : Array Slot} (hret : meth.sig.returnType = none) (hd : decode c.code pc = .ok (.return_, 1)) {Q : Option Value → Heap → List Loc → Prop} {C N : Nat}
    (hQ : Q none T.heap locs) (hC : cells ≤ C) (hN : slots ≤ N) : own_Go p e below (own_G s Q C N) (T.setTop (mkF m pc Ls [])) := by
  obtain ⟨fs, hr, hrun, hended, hW, hsame⟩ := X.leave (v := none) (fun _ => rfl)
  exact ⟨_, _, X.returnOut hx hret hd hr, hrun, hended, _, _, rfl, hQ, ⟨_, rfl⟩, hW, hsame.mono hC hN⟩
theorem own_cast {locs' : List Loc} {cells' slots' : Nat} (X : Stand p l e R s m args below meth c T locs cells slots) (e1 : locs = locs') (e2 : cells = cells') (e3 : slots = slots') : Stand p l e R s m args below meth c T locs' cells' slots' := by
  subst e1 e2 e3; exact X
theorem own_z0 {i j : Nat} (q : i = 0) : i ≤ j := q ▸ Nat.zero_le j
/-! arrays of ints (or bytes), of longs: their length and their elements by a plain function -/
def own_Ai (Z : State) (h : Heap) (a : Addr) (ty : FieldType) (n : Nat) (f : Nat → Int32) : Prop := ∃ c : Cell, Arr Z h a c ty ∧ c.slots.size = n ∧ ∀ i, i < n → c.slots[i]? = some (.int (f i))
def own_Aj (Z : State) (h : Heap) (a : Addr) (ty : FieldType) (n : Nat) (f : Nat → Int64) : Prop := ∃ c : Cell, Arr Z h a c ty ∧ c.slots.size = n ∧ ∀ i, i < n → c.slots[i]? = some (.long (f i))
def own_up (f : Nat → Int32) (k : Nat) (x : Int32) : Nat → Int32 := fun i => if i = k then x else f i
def own_upJ (f : Nat → Int64) (k : Nat) (x : Int64) : Nat → Int64 := fun i => if i = k then x else f i
theorem own_up_at (f : Nat → Int32) (k : Nat) (x : Int32) (i : Nat) : own_up f k x i = if i = k then x else f i := rfl
theorem own_upJ_at (f : Nat → Int64) (k : Nat) (x : Int64) (i : Nat) : own_upJ f k x i = if i = k then x else f i := rfl
variable {ty : FieldType} {n : Nat} {f : Nat → Int32} {fj : Nat → Int64} {ws : List Addr} {sl : Nat} {v : Value}
theorem own_Ai.lt (F : own_Ai Z h a ty n f) : a < h.size := by obtain ⟨c, A, -⟩ := F; exact A.lt
theorem own_Aj.lt (F : own_Aj Z h a ty n fj) : a < h.size := by obtain ⟨c, A, -⟩ := F; exact A.lt
theorem own_Ai.ext (F : own_Ai Z h a ty n f) (E : Ext h h') : own_Ai Z h' a ty n f := by obtain ⟨c, A, r⟩ := F; exact ⟨c, A.ext E, r⟩
theorem own_Aj.ext (F : own_Aj Z h a ty n fj) (E : Ext h h') : own_Aj Z h' a ty n fj := by obtain ⟨c, A, r⟩ := F; exact ⟨c, A.ext E, r⟩
theorem own_Ai.other (F : own_Ai Z h b ty n f) (W : Wr h h' a sl v) (q : b ≠ a) : own_Ai Z h' b ty n f := by obtain ⟨c, A, r⟩ := F; exact ⟨c, A.other W q, r⟩
theorem own_Aj.other (F : own_Aj Z h b ty n fj) (W : Wr h h' a sl v) (q : b ≠ a) : own_Aj Z h' b ty n fj := by obtain ⟨c, A, r⟩ := F; exact ⟨c, A.other W q, r⟩
theorem own_Ai.keep (F : own_Ai Z h a ty n f) (K : Keep h h' ws) (q : a ∉ ws) : own_Ai Z h' a ty n f := by obtain ⟨c, A, r⟩ := F; exact ⟨c, ⟨K.2.1 a c A.1 q, A.2⟩, r⟩
theorem own_Aj.keep (F : own_Aj Z h a ty n fj) (K : Keep h h' ws) (q : a ∉ ws) : own_Aj Z h' a ty n fj := by obtain ⟨c, A, r⟩ := F; exact ⟨c, ⟨K.2.1 a c A.1 q, A.2⟩, r⟩
theorem own_Ai.neq {a0 : Array Value} {k : Nat} {C : String} (F : own_Ai Z h b ty n f) (E : Exa Z h a C) (wi : (Cond.instantiable C k).before a0 Z = true) : a ≠ b := by obtain ⟨c, A, -⟩ := F; exact ne_arr E wi A
theorem own_Aj.neq {a0 : Array Value} {k : Nat} {C : String} (F : own_Aj Z h b ty n fj) (E : Exa Z h a C) (wi : (Cond.instantiable C k).before a0 Z = true) : a ≠ b := by obtain ⟨c, A, -⟩ := F; exact ne_arr E wi A
theorem own_nat {j : Int32} {k : Nat} (hj : j.toInt = k) : j.toNatClampNeg = k := by simp only [Int32.toNatClampNeg, hj]; rfl
theorem own_in {j : Int32} {k n : Nat} (hj : j.toInt = k) (hk : k < n) : ¬ (j < 0 ∨ n ≤ j.toNatClampNeg) := by
  rw [own_nat hj, Int32.lt_iff_toInt_lt, hj, show (0 : Int32).toInt = 0 from rfl]; omega
theorem own_len {z : Int32} (hz : z.toInt = n) : n.toInt32 = z := by
  have := Int32.toInt_lt z
  exact Int32.toInt_inj.mp (by rw [Int32.toInt_ofNat_small (by omega), hz])
theorem own_iaload (X : Stand p l e R s m args below meth c T locs cells slots) (hx : p.tables.exec = Jvm.exec) (hZ : Z.Warmed39 s.vm) (eT : T.heap = h) (A : own_Ai Z h a .int n f) {j : Int32} {k : Nat} (hj : j.toInt = k) (hk : k < n) {g : JFrame} (hg : g.method = m) {rest : List Value} (hs : g.stack = .int j :: .ref a :: rest) (hd : decode c.code g.pc = .ok (.iaload, 1)) {target : State}
    (hr : Steps p.tables e below (T.setTop { g with pc := g.pc + 1, stack := .int (f k) :: rest }) target) : Steps p.tables e below (T.setTop g) target := by
  obtain ⟨cl, A, S, H⟩ := A
  exact X.iaload hx (j := j) (v := .int (f k)) (by rw [eT]; exact A.1) (State.isArrayOf_alike hZ.alike A.2.1) A.2.2 (by rw [S]; exact own_in hj hk) (by rw [own_nat hj]; exact H k hk) hg hs hd _ hr
theorem own_baload (X : Stand p l e R s m args below meth c T locs cells slots) (hx : p.tables.exec = Jvm.exec) (hZ : Z.Warmed39 s.vm) (eT : T.heap = h) (A : own_Ai Z h a .byte n f) {j : Int32} {k : Nat} (hj : j.toInt = k) (hk : k < n) {g : JFrame} (hg : g.method = m) {rest : List Value} (hs : g.stack = .int j :: .ref a :: rest) (hd : decode c.code g.pc = .ok (.baload, 1)) {target : State}
    (hr : Steps p.tables e below (T.setTop { g with pc := g.pc + 1, stack := .int (f k) :: rest }) target) : Steps p.tables e below (T.setTop g) target := by
  obtain ⟨cl, A, S, H⟩ := A
  exact X.baloadBytes hx (j := j) (v := .int (f k)) (by rw [eT]; exact A.1) (State.isArrayOf_alike hZ.alike A.2.1) A.2.2 (by rw [S]; exact own_in hj hk) (by rw [own_nat hj]; exact H k hk) hg hs hd _ hr
theorem own_laload (X : Stand p l e R s m args below meth c T locs cells slots) (hx : p.tables.exec = Jvm.exec) (hZ : Z.Warmed39 s.vm) (eT : T.heap = h) (A : own_Aj Z h a .long n fj) {j : Int32} {k : Nat} (hj : j.toInt = k) (hk : k < n) {g : JFrame} (hg : g.method = m) {rest : List Value} (hs : g.stack = .int j :: .ref a :: rest) (hd : decode c.code g.pc = .ok (.laload, 1)) {target : State}
    (hr : Steps p.tables e below (T.setTop { g with pc := g.pc + 1, stack := .long (fj k) :: rest }) target) : Steps p.tables e below (T.setTop g) target := by
  obtain ⟨cl, A, S, H⟩ := A
  exact X.laload hx (j := j) (v := .long (fj k)) (by rw [eT]; exact A.1) (State.isArrayOf_alike hZ.alike A.2.1) A.2.2 (by rw [S]; exact own_in hj hk) (by rw [own_nat hj]; exact H k hk) hg hs hd _ hr
theorem own_alen (X : Stand p l e R s m args below meth c T locs cells slots) (hx : p.tables.exec = Jvm.exec) (hZ : Z.Warmed39 s.vm) (eT : T.heap = h) (A : own_Ai Z h a ty n f) {z : Int32} (hz : z.toInt = n) {g : JFrame} (hg : g.method = m) {rest : List Value} (hs : g.stack = .ref a :: rest) (hd : decode c.code g.pc = .ok (.arraylength, 1)) {target : State}
    (hr : Steps p.tables e below (T.setTop { g with pc := g.pc + 1, stack := .int z :: rest }) target) : Steps p.tables e below (T.setTop g) target := by
  obtain ⟨cl, A, S, H⟩ := A
  refine X.arraylength hx (by rw [eT]; exact A.1) (State.isArrayOf_alike hZ.alike A.2.1) hg hs hd _ ?_
  rw [S, own_len hz]; exact hr
theorem own_Ai.set (F : own_Ai Z h a ty n f) {j : Nat} {x : Int32} (W : Wr h h' a j (.int x)) : own_Ai Z h' a ty n (own_up f j x) := by
  obtain ⟨cl, A, S, H⟩ := F
  refine ⟨_, A.same W, by rw [sz_set]; exact S, fun i hi => ?_⟩
  rw [own_up_at]
  by_cases q : i = j
  · subst q
    rw [if_pos rfl]
    simp [Cell.setSlot, S, hi]
  · rw [if_neg q, show (cl.setSlot j (.int x)).slots[i]? = cl.slots[i]? from Array.getElem?_setIfInBounds_ne (Ne.symm q)]
    exact H i hi
theorem own_Aj.set (F : own_Aj Z h a ty n fj) {j : Nat} {x : Int64} (W : Wr h h' a j (.long x)) : own_Aj Z h' a ty n (own_upJ fj j x) := by
  obtain ⟨cl, A, S, H⟩ := F
  refine ⟨_, A.same W, by rw [sz_set]; exact S, fun i hi => ?_⟩
  rw [own_upJ_at]
  by_cases q : i = j
  · subst q
    rw [if_pos rfl]
    simp [Cell.setSlot, S, hi]
  · rw [if_neg q, show (cl.setSlot j (.long x)).slots[i]? = cl.slots[i]? from Array.getElem?_setIfInBounds_ne (Ne.symm q)]
    exact H i hi
theorem own_iastore (X : Stand p l e R s m args below meth c T locs cells slots) (hx : p.tables.exec = Jvm.exec) (hZ : Z.Warmed39 s.vm) (eT : T.heap = h) (A : own_Ai Z h a .int n f) {j x : Int32} {k : Nat} (hj : j.toInt = k) (hk : k < n) {g : JFrame} (hg : g.method = m) {rest : List Value} (hs : g.stack = .int x :: .int j :: .ref a :: rest) (hd : decode c.code g.pc = .ok (.iastore, 1)) :
    ∃ T' h', Stand p l e R s m args below meth c T' (locs ++ [⟨a, k⟩]) cells slots ∧ T'.heap = h' ∧ Wr h h' a k (.int x) ∧ own_Ai Z h' a .int n (own_up f k x) ∧ ∀ target, Steps p.tables e below (T'.setTop { g with pc := g.pc + 1, stack := rest }) target → Steps p.tables e below (T.setTop g) target := by
  obtain ⟨cl, B, S, H⟩ := id A
  obtain ⟨T', h', X', e', W, st⟩ := stI X hx hZ eT B (j := j) (x := x) (by rw [S]; exact own_in hj hk) hg hs hd
  rw [own_nat hj] at X' W
  exact ⟨T', h', X', e', W, A.set W, st⟩
theorem own_bastore (X : Stand p l e R s m args below meth c T locs cells slots) (hx : p.tables.exec = Jvm.exec) (hZ : Z.Warmed39 s.vm) (eT : T.heap = h) (A : own_Ai Z h a .byte n f) {j x : Int32} {k : Nat} (hj : j.toInt = k) (hk : k < n) {g : JFrame} (hg : g.method = m) {rest : List Value} (hs : g.stack = .int x :: .int j :: .ref a :: rest) (hd : decode c.code g.pc = .ok (.bastore, 1)) :
    ∃ T' h', Stand p l e R s m args below meth c T' (locs ++ [⟨a, k⟩]) cells slots ∧ T'.heap = h' ∧ Wr h h' a k (.int x.toInt8.toInt32) ∧ own_Ai Z h' a .byte n (own_up f k x.toInt8.toInt32) ∧ ∀ target, Steps p.tables e below (T'.setTop { g with pc := g.pc + 1, stack := rest }) target → Steps p.tables e below (T.setTop g) target := by
  obtain ⟨cl, B, S, H⟩ := id A
  obtain ⟨T', h', X', e', W, st⟩ := stB X hx hZ eT B (j := j) (x := x) (by rw [S]; exact own_in hj hk) hg hs hd
  rw [own_nat hj] at X' W
  exact ⟨T', h', X', e', W, A.set W, st⟩
theorem own_lastore (X : Stand p l e R s m args below meth c T locs cells slots) (hx : p.tables.exec = Jvm.exec) (hZ : Z.Warmed39 s.vm) (eT : T.heap = h) (A : own_Aj Z h a .long n fj) {j : Int32} {x : Int64} {k : Nat} (hj : j.toInt = k) (hk : k < n) {g : JFrame} (hg : g.method = m) {rest : List Value} (hs : g.stack = .long x :: .int j :: .ref a :: rest) (hd : decode c.code g.pc = .ok (.lastore, 1)) :
    ∃ T' h', Stand p l e R s m args below meth c T' (locs ++ [⟨a, k⟩]) cells slots ∧ T'.heap = h' ∧ Wr h h' a k (.long x) ∧ own_Aj Z h' a .long n (own_upJ fj k x) ∧ ∀ target, Steps p.tables e below (T'.setTop { g with pc := g.pc + 1, stack := rest }) target → Steps p.tables e below (T.setTop g) target := by
  obtain ⟨cl, B, S, H⟩ := id A
  obtain ⟨T', h', X', e', W, st⟩ := stJ X hx hZ eT B (j := j) (x := x) (by rw [S]; exact own_in hj hk) hg hs hd
  rw [own_nat hj] at X' W
  exact ⟨T', h', X', e', W, A.set W, st⟩
theorem own_newarr (X : Stand p l e R s m args below meth c T locs cells slots) (hx : p.tables.exec = Jvm.exec) (hZ : Z.Warmed39 s.vm) {a0 : Array Value} {aty : ArrayType} (w : (Cond.arrayClass (newarray.typeOf aty)).before a0 Z = true) (eT : T.heap = h) {g : JFrame} (hg : g.method = m) (hd : decode c.code g.pc = .ok (.newarray aty, 2)) {z : Int32} {rest : List Value} (hs : g.stack = .int z :: rest) {k : Nat}
    (hz : z.toInt = k) {cap : Nat} (hcap : k ≤ cap) (hb : cap * 8 ≤ 536870912) (hc : cells + 1 ≤ R.cells) (hl : slots + cap ≤ R.slots) :
    ∃ T' h' cl, Stand p l e R s m args below meth c T' locs (cells + 1) (slots + cap) ∧ T'.heap = h' ∧ Ext h h' ∧ (Arr Z h' h.size cl (newarray.typeOf aty) ∧ cl.slots = Array.replicate k (defaultValue (newarray.typeOf aty))) ∧
      ∀ target, Steps p.tables e below (T'.setTop { g with pc := g.pc + 2, stack := .ref h.size :: rest }) target → Steps p.tables e below (T.setTop g) target := by
  have hn : ¬ z < 0 := by rw [Int32.lt_iff_toInt_lt, hz, show (0 : Int32).toInt = 0 from rfl]; omega
  obtain ⟨T', h', cA, X', e', E, A, st⟩ := newP X hx hZ w eT hg hd hs hn (by rw [own_nat hz]; exact hcap) hb hc hl
  exact ⟨T', h', _, X', e', E, ⟨A, by simp [newA, own_nat hz]⟩, st⟩
theorem own_Ai.new {cl : Cell} {k : Nat} (A : Arr Z h a cl ty ∧ cl.slots = Array.replicate k (.int 0)) : own_Ai Z h a ty k (fun _ => 0) :=
  ⟨cl, A.1, by rw [A.2]; simp, fun i hi => by rw [A.2]; simp [hi]⟩
theorem own_Aj.new {cl : Cell} {k : Nat} (A : Arr Z h a cl ty ∧ cl.slots = Array.replicate k (.long 0)) : own_Aj Z h a ty k (fun _ => 0) :=
  ⟨cl, A.1, by rw [A.2]; simp, fun i hi => by rw [A.2]; simp [hi]⟩
theorem own_l_lt (x y : Int64) {b : Bool} (h : if_icmp.holds .lt (lcmpW x y) 0 = b) : ifCond.holds .lt (lcmpW x y) = b := (if0 _ _).trans h
end Own
end Jvm.RoadKit
namespace Jvm.Pilot.@@N@@
open Jvm Jvm.ClassFile Sem Op Lib Jvm.Free Jvm.Stand Jvm.LawKit Jvm.RoadKit Bundle Jvm.Pilot.@@N@@.Jvm.D
def own_s4 (l c1 c2 c3 v w : Int32) : Int32 := if l < 128 then 1 else if l < 194 then 0 else if 223 < l then
    (if 239 < l then (if 244 < l then 0 else if w < v + 4 then 0 else if c1 < (if l = 240 then 144 else 128) then 0 else if (if l = 244 then 143 else 191) < c1 then 0 else if c2 < 128 then 0 else if 191 < c2 then 0 else if c3 < 128 then 0 else if 191 < c3 then 0 else 4)
    else (if w < v + 3 then 0 else if c1 < (if l = 224 then 160 else 128) then 0 else if (if l = 237 then 159 else 191) < c1 then 0 else if c2 < 128 then 0 else if 191 < c2 then 0 else 3))
  else (if w < v + 2 then 0 else if c1 < 128 then 0 else if 191 < c1 then 0 else 2)
def own_S (ff : Nat → Int32) (iv w : Int32) : Int32 := own_s4 ((ff iv.toInt.toNat) &&& (255 : Int32)) ((ff (iv.toInt.toNat + 1)) &&& (255 : Int32)) ((ff (iv.toInt.toNat + 2)) &&& (255 : Int32)) ((ff (iv.toInt.toNat + 3)) &&& (255 : Int32)) iv w
def own_res (ff : Nat → Int32) (w : Int32) : Nat → Int32 → Int32
  | 0, _ => -1
  | n + 1, iv => if iv < w then (if own_S ff iv w = 0 then iv else own_res ff w n (iv + own_S ff iv w)) else -1
theorem own_res_s (ff : Nat → Int32) (w : Int32) (n : Nat) (iv : Int32) : own_res ff w (n + 1) iv = if iv < w then (if own_S ff iv w = 0 then iv else own_res ff w n (iv + own_S ff iv w)) else -1 := rfl
theorem own_ilt {a b : Int32} : a < b ↔ a.toInt < b.toInt := Int32.lt_iff_toInt_lt
theorem own_ai {a i : Int32} {k : Nat} (h0 : 0 ≤ a.toInt) (h1 : a.toInt ≤ 1000) (hi : i.toInt = (k : Int)) (hk : k < 100) : (a + i).toInt = ((a.toInt.toNat + k : Nat) : Int) := by
  have q := c_iadd a i
  have r := rng32 (a + i)
  omega
theorem own_bad {ff : Nat → Int32} {w iv : Int32} {n : Nat} (h : iv < w) (h0 : own_S ff iv w = 0) : own_res ff w (n + 1) iv = iv := by rw [own_res_s, if_pos h, if_pos h0]
theorem own_good {ff : Nat → Int32} {w iv L : Int32} {n : Nat} (h : iv < w) (h0 : own_S ff iv w = L) (hL : L ≠ 0) : own_res ff w (n + 1) iv = own_res ff w n (iv + L) := by rw [own_res_s, if_pos h, h0, if_neg hL]
theorem own_end {ff : Nat → Int32} {w iv : Int32} {n : Nat} (h : ¬ (iv < w)) : own_res ff w (n + 1) iv = -1 := by rw [own_res_s, if_neg h]
theorem own_b255 (z : Int32) : 0 ≤ (z &&& 255).toInt ∧ (z &&& 255).toInt ≤ 255 := c_and z 255 (by decide)
theorem own_from (z : Int32) : 0 ≤ ((z &&& 2147483647) % 5).toInt ∧ ((z &&& 2147483647) % 5).toInt ≤ 4 := by
  have h1 := c_mask z 2147483647 31 (by decide) (by decide)
  have h2 := (c_irem (z &&& 2147483647) 5 5 (by decide)).1 (by rw [h1]; omega)
  omega
theorem own_5sub {f : Int32} (h : 0 ≤ f.toInt ∧ f.toInt ≤ 4) : ((5 : Int32) - f).toInt = 5 - f.toInt := by
  have q := c_isub 5 f
  have r := rng32 (5 - f)
  have e5 : (5 : Int32).toInt = 5 := by decide
  rw [e5] at q
  omega
theorem own_tonz {f : Int32} (h : 0 ≤ f.toInt ∧ f.toInt ≤ 4) : (5 : Int32) - f ≠ 0 := fun e => by
  have q := own_5sub h
  rw [e, show (0 : Int32).toInt = 0 from rfl] at q
  omega
theorem own_to (f z : Int32) (h : 0 ≤ f.toInt ∧ f.toInt ≤ 4) : f.toInt ≤ (f + ((z &&& 2147483647) % ((5 : Int32) - f))).toInt ∧ (f + ((z &&& 2147483647) % ((5 : Int32) - f))).toInt ≤ 4 := by
  have h1 := c_mask z 2147483647 31 (by decide) (by decide)
  have h2 := (c_iremV (z &&& 2147483647) ((5 : Int32) - f)).1 (by rw [h1]; omega) (by rw [own_5sub h]; omega)
  rw [own_5sub h] at h2
  have q := c_iadd f ((z &&& 2147483647) % ((5 : Int32) - f))
  have r := rng32 (f + ((z &&& 2147483647) % ((5 : Int32) - f)))
  omega
theorem own_kk : ∀ i : Fin 256, ((Int32.ofNat i.val &&& 192 = 128) ↔ (128 ≤ i.val ∧ i.val < 192)) := by decide +kernel
theorem own_k (z : Int32) (h0 : 0 ≤ z.toInt ∧ z.toInt ≤ 255) : ((z &&& 192 = 128) ↔ (128 ≤ z.toInt ∧ z.toInt < 192)) := by
  have e : z = Int32.ofNat z.toInt.toNat := Int32.toInt_inj.mp (by rw [Int32.toInt_ofNat_of_lt (by omega)]; omega)
  have q := own_kk ⟨z.toInt.toNat, by omega⟩
  dsimp only at q
  rw [← e] at q
  exact q.trans ⟨fun h => by omega, fun h => by omega⟩
theorem own_shl (z q : Int32) (k : Nat) (P : Int) (hk : q.toBitVec.toNat % 32 = k) (hP : ((2 ^ k : Nat) : Int) = P) (h0 : 0 ≤ z.toInt * P) (h1 : z.toInt * P < 2147483648) : (z <<< (q &&& 31)).toInt = z.toInt * P := by
  have h := c_ishl z q k hk
  have r := rng32 (z <<< (q &&& 31))
  rw [hP] at h
  generalize z.toInt * P = w at *
  omega
theorem own_or (a b : Int32) (k : Nat) (P : Int) (hk : k ≤ 31) (hP : P = (2 ^ k : Nat)) (ha : a.toInt % P = 0) (h0 : 0 ≤ a.toInt) (hb : 0 ≤ b.toInt) (hb1 : b.toInt < P) (h1 : a.toInt + b.toInt < 2147483648) : (a ||| b).toInt = a.toInt + b.toInt := by
  have h := c_or a b k hk P hP ha hb hb1
  have r := rng32 (a ||| b)
  omega
theorem own_m63 (z : Int32) : (z &&& 63).toInt = z.toInt % 64 := c_mask z 63 6 (by decide) (by decide)
/-- one more six bits -/
theorem own_six (a y : Int32) (h0 : 0 ≤ a.toInt) (h1 : a.toInt < 33554432) : ((a <<< ((6 : Int32) &&& 31)) ||| (y &&& 63)).toInt = a.toInt * 64 + y.toInt % 64 := by
  have m2 := own_m63 y
  have s1 := own_shl a 6 6 64 (by decide) (by decide) (by omega) (by omega)
  rw [own_or _ _ 6 64 (by decide) (by decide) (by omega) (by omega) (by omega) (by omega) (by omega), s1, m2]
theorem own_ieq (a b : Int32) : a = b ↔ a.toInt = b.toInt := Int32.toInt_inj.symm
theorem own_s0 {l c1 c2 c3 v w : Int32} (h1 : ¬ (l < 128)) (h2 : l < 192) : own_s4 l c1 c2 c3 v w = 0 := by
  unfold own_s4
  rw [if_neg h1, if_pos (by rw [own_ilt, show (192 : Int32).toInt = 192 from rfl] at h2; rw [own_ilt, show (194 : Int32).toInt = 194 from rfl]; omega)]
theorem own_s0b {l c1 c2 c3 v w : Int32} (h1 : ¬ (l < 248)) : own_s4 l c1 c2 c3 v w = 0 := by
  rw [own_ilt, show (248 : Int32).toInt = 248 from rfl] at h1
  unfold own_s4
  rw [if_neg (show ¬ l < 128 by rw [own_ilt, show (128 : Int32).toInt = 128 from rfl]; omega), if_neg (show ¬ l < 194 by rw [own_ilt, show (194 : Int32).toInt = 194 from rfl]; omega), if_pos (show 223 < l by rw [own_ilt, show (223 : Int32).toInt = 223 from rfl]; omega), if_pos (show 239 < l by rw [own_ilt, show (239 : Int32).toInt = 239 from rfl]; omega), if_pos (show 244 < l by rw [own_ilt, show (244 : Int32).toInt = 244 from rfl]; omega)]
/-- own_s4 by the ranges of the first byte -/
theorem own_r2 {l c1 c2 c3 v w : Int32} (h1 : ¬ (l < 192)) (h2 : l < 224) : own_s4 l c1 c2 c3 v w = if l < 194 then 0 else if w < v + 2 then 0 else if c1 < 128 then 0 else if 191 < c1 then 0 else 2 := by
  rw [own_ilt, show (192 : Int32).toInt = 192 from rfl] at h1
  rw [own_ilt, show (224 : Int32).toInt = 224 from rfl] at h2
  unfold own_s4
  rw [if_neg (show ¬ l < 128 by rw [own_ilt, show (128 : Int32).toInt = 128 from rfl]; omega), if_neg (show ¬ 223 < l by rw [own_ilt, show (223 : Int32).toInt = 223 from rfl]; omega)]
theorem own_r3 {l c1 c2 c3 v w : Int32} (h1 : ¬ (l < 224)) (h2 : l < 240) : own_s4 l c1 c2 c3 v w = if w < v + 3 then 0 else if c1 < (if l = 224 then 160 else 128) then 0 else if (if l = 237 then 159 else 191) < c1 then 0 else if c2 < 128 then 0 else if 191 < c2 then 0 else 3 := by
  rw [own_ilt, show (224 : Int32).toInt = 224 from rfl] at h1
  rw [own_ilt, show (240 : Int32).toInt = 240 from rfl] at h2
  unfold own_s4
  rw [if_neg (show ¬ l < 128 by rw [own_ilt, show (128 : Int32).toInt = 128 from rfl]; omega), if_neg (show ¬ l < 194 by rw [own_ilt, show (194 : Int32).toInt = 194 from rfl]; omega), if_pos (show 223 < l by rw [own_ilt, show (223 : Int32).toInt = 223 from rfl]; omega), if_neg (show ¬ 239 < l by rw [own_ilt, show (239 : Int32).toInt = 239 from rfl]; omega)]
theorem own_r4 {l c1 c2 c3 v w : Int32} (h1 : ¬ (l < 240)) : own_s4 l c1 c2 c3 v w = if 244 < l then 0 else if w < v + 4 then 0 else if c1 < (if l = 240 then 144 else 128) then 0 else if (if l = 244 then 143 else 191) < c1 then 0 else if c2 < 128 then 0 else if 191 < c2 then 0 else if c3 < 128 then 0 else if 191 < c3 then 0 else 4 := by
  rw [own_ilt, show (240 : Int32).toInt = 240 from rfl] at h1
  unfold own_s4
  rw [if_neg (show ¬ l < 128 by rw [own_ilt, show (128 : Int32).toInt = 128 from rfl]; omega), if_neg (show ¬ l < 194 by rw [own_ilt, show (194 : Int32).toInt = 194 from rfl]; omega), if_pos (show 223 < l by rw [own_ilt, show (223 : Int32).toInt = 223 from rfl]; omega), if_pos (show 239 < l by rw [own_ilt, show (239 : Int32).toInt = 239 from rfl]; omega)]
theorem own_u2 {l c1 c2 c3 v w : Int32} (h1 : ¬ (l < 192)) (h2 : l < 224) (h3 : w < v + 2) : own_s4 l c1 c2 c3 v w = 0 := by
  rw [own_r2 h1 h2, if_pos h3]; split <;> rfl
theorem own_u3 {l c1 c2 c3 v w : Int32} (h1 : ¬ (l < 224)) (h2 : l < 240) (h3 : w < v + 3) : own_s4 l c1 c2 c3 v w = 0 := by
  rw [own_r3 h1 h2, if_pos h3]
theorem own_u4 {l c1 c2 c3 v w : Int32} (h1 : ¬ (l < 240)) (h2 : l < 248) (h3 : w < v + 4) : own_s4 l c1 c2 c3 v w = 0 := by
  rw [own_r4 h1, if_pos h3]; split <;> rfl
theorem own_v1 {l c1 c2 c3 v w vd : Int32} (h1 : l < 128) (h0 : 0 ≤ l.toInt ∧ l.toInt ≤ 255) (hvd : vd = if l < 0 then 0 else if 1114111 < l then 0 else if l < 55296 then 1 else if 57343 < l then 1 else 0) : (vd = 0 → own_s4 l c1 c2 c3 v w = 0) ∧ (¬ vd = 0 → own_s4 l c1 c2 c3 v w = 1) := by
  have e : own_s4 l c1 c2 c3 v w = 1 := if_pos h1
  rw [own_ilt, show (128 : Int32).toInt = 128 from rfl] at h1
  have z : vd = 1 := by
    rw [hvd, if_neg (show ¬ l < 0 by rw [own_ilt, show (0 : Int32).toInt = 0 from rfl]; omega), if_neg (show ¬ 1114111 < l by rw [own_ilt, show (1114111 : Int32).toInt = 1114111 from rfl]; omega), if_pos (show l < 55296 by rw [own_ilt, show (55296 : Int32).toInt = 55296 from rfl]; omega)]
  exact ⟨fun h => absurd (z.symm.trans h) (by decide), fun _ => e⟩
/-- the marks of the law -/
theorem own_mark {k c : Int32} (hc : 0 ≤ c.toInt ∧ c.toInt ≤ 255) (hk : k = if c &&& 192 = 128 then 1 else 0) : (k = 0 ↔ ¬ (128 ≤ c.toInt ∧ c.toInt < 192)) := by
  have q := own_k c hc
  rw [hk]
  by_cases h : c &&& 192 = 128
  · rw [if_pos h]; exact ⟨fun x => absurd x (by decide), fun x => absurd (q.mp h) x⟩
  · rw [if_neg h]; exact ⟨fun _ x => h (q.mpr x), fun _ => rfl⟩
theorem own_mark2 {k k' c : Int32} (hc : 0 ≤ c.toInt ∧ c.toInt ≤ 255) (hk : k' = if k = 0 then 0 else if c &&& 192 = 128 then 1 else 0) : (k' = 0 ↔ (k = 0 ∨ ¬ (128 ≤ c.toInt ∧ c.toInt < 192))) := by
  by_cases h : k = 0
  · rw [if_pos h] at hk; exact ⟨fun _ => Or.inl h, fun _ => hk⟩
  · rw [if_neg h] at hk
    exact (own_mark hc hk).trans ⟨Or.inr, fun x => x.resolve_left h⟩
theorem own_valid {k q mn vd : Int32} (hvd : vd = if k = 0 then 0 else if q < mn then 0 else if 1114111 < q then 0 else if q < 55296 then 1 else if 57343 < q then 1 else 0) : (vd = 0 ↔ (k = 0 ∨ q.toInt < mn.toInt ∨ 1114111 < q.toInt ∨ (¬ q.toInt < 55296 ∧ ¬ 57343 < q.toInt))) := by
  rw [hvd]
  simp only [own_ilt, show (1114111 : Int32).toInt = 1114111 from rfl, show (55296 : Int32).toInt = 55296 from rfl, show (57343 : Int32).toInt = 57343 from rfl]
  by_cases h1 : k = 0
  · rw [if_pos h1]; exact ⟨fun _ => Or.inl h1, fun _ => rfl⟩
  · rw [if_neg h1]
    by_cases h2 : q.toInt < mn.toInt
    · rw [if_pos h2]; exact ⟨fun _ => Or.inr (Or.inl h2), fun _ => rfl⟩
    · rw [if_neg h2]
      by_cases h3 : 1114111 < q.toInt
      · rw [if_pos h3]; exact ⟨fun _ => Or.inr (Or.inr (Or.inl h3)), fun _ => rfl⟩
      · rw [if_neg h3]
        by_cases h4 : q.toInt < 55296
        · rw [if_pos h4]; exact ⟨fun x => absurd x (by decide), fun x => by rcases x with x | x | x | x <;> first | exact absurd x h1 | exact absurd x h2 | exact absurd x h3 | exact absurd h4 x.1⟩
        · rw [if_neg h4]
          by_cases h5 : 57343 < q.toInt
          · rw [if_pos h5]; exact ⟨fun x => absurd x (by decide), fun x => by rcases x with x | x | x | x <;> first | exact absurd x h1 | exact absurd x h2 | exact absurd x h3 | exact absurd h5 x.2⟩
          · rw [if_neg h5]; exact ⟨fun _ => Or.inr (Or.inr (Or.inr ⟨h4, h5⟩)), fun _ => rfl⟩
theorem own_l2 {α : Type} (z t : α) (L C1 : Int) : (if L < 194 then z else if C1 < 128 then z else if 191 < C1 then z else t) = if (L < 194 ∨ ¬ (128 ≤ C1 ∧ C1 < 192)) then z else t := by
  by_cases h : (L < 194 ∨ ¬ (128 ≤ C1 ∧ C1 < 192))
  · rw [if_pos h]
    repeat' split
    all_goals first | rfl | (exfalso; omega)
  · rw [if_neg h, if_neg (show ¬ L < 194 by omega), if_neg (show ¬ C1 < 128 by omega), if_neg (show ¬ 191 < C1 by omega)]
theorem own_ite {P : Prop} [Decidable P] {A B : Int32} {vd : Int32} (h : (vd = 0) ↔ P) : (vd = 0 → (if P then A else B) = A) ∧ (¬ vd = 0 → (if P then A else B) = B) := ⟨fun x => if_pos (h.mp x), fun x => if_neg fun y => x (h.mpr y)⟩
theorem own_v2 {l c1 c2 c3 v w k1 q2 vd : Int32} (hl : 0 ≤ l.toInt ∧ l.toInt ≤ 255) (hr1 : 0 ≤ c1.toInt ∧ c1.toInt ≤ 255) (h1 : ¬ (l < 192)) (h2 : l < 224) (h3 : ¬ (w < v + 2)) (hk1 : k1 = if c1 &&& 192 = 128 then 1 else 0) (hq2 : q2 = (((l &&& 31) <<< ((6 : Int32) &&& 31)) ||| (c1 &&& 63))) (hvd : vd = if k1 = 0 then 0 else if q2 < 128 then 0 else if 1114111 < q2 then 0 else if q2 < 55296 then 1 else if 57343 < q2 then 1 else 0) : (vd = 0 → own_s4 l c1 c2 c3 v w = 0) ∧ (¬ vd = 0 → own_s4 l c1 c2 c3 v w = 2) := by
  have m1 : (l &&& 31).toInt = l.toInt % 32 := c_mask l 31 5 (by decide) (by decide)
  have e := own_six (l &&& 31) c1 (by omega) (by omega)
  rw [← hq2, m1] at e
  have mk := own_mark hr1 hk1
  have vl := own_valid hvd
  rw [own_r2 h1 h2, if_neg h3]
  rw [own_ilt, show (192 : Int32).toInt = 192 from rfl] at h1
  rw [own_ilt, show (224 : Int32).toInt = 224 from rfl] at h2
  simp only [own_ilt, show (194 : Int32).toInt = 194 from rfl, show (128 : Int32).toInt = 128 from rfl, show (191 : Int32).toInt = 191 from rfl]
  rw [own_l2]
  refine own_ite (vl.trans ?_)
  rw [mk, show (128 : Int32).toInt = 128 from rfl]
  omega
theorem own_l3 {α : Type} (z t : α) (L C1 C2 : Int) : (if C1 < (if L = 224 then 160 else 128) then z else if (if L = 237 then 159 else 191) < C1 then z else if C2 < 128 then z else if 191 < C2 then z else t) = if ((L = 224 ∧ C1 < 160) ∨ C1 < 128 ∨ (L = 237 ∧ 159 < C1) ∨ 191 < C1 ∨ ¬ (128 ≤ C2 ∧ C2 < 192)) then z else t := by
  by_cases h : ((L = 224 ∧ C1 < 160) ∨ C1 < 128 ∨ (L = 237 ∧ 159 < C1) ∨ 191 < C1 ∨ ¬ (128 ≤ C2 ∧ C2 < 192))
  · rw [if_pos h]
    repeat' split
    all_goals first | rfl | (exfalso; omega)
  · rw [if_neg h]
    repeat' split
    all_goals first | rfl | (exfalso; omega)
theorem own_v3 {l c1 c2 c3 v w k1 k2 q2 q3 vd : Int32} (hl : 0 ≤ l.toInt ∧ l.toInt ≤ 255) (hr1 : 0 ≤ c1.toInt ∧ c1.toInt ≤ 255) (hr2 : 0 ≤ c2.toInt ∧ c2.toInt ≤ 255) (h1 : ¬ (l < 224)) (h2 : l < 240) (h3 : ¬ (w < v + 3)) (hk1 : k1 = if c1 &&& 192 = 128 then 1 else 0) (hk2 : k2 = if k1 = 0 then 0 else if c2 &&& 192 = 128 then 1 else 0) (hq2 : q2 = (((l &&& 15) <<< ((6 : Int32) &&& 31)) ||| (c1 &&& 63))) (hq3 : q3 = ((q2 <<< ((6 : Int32) &&& 31)) ||| (c2 &&& 63))) (hvd : vd = if k2 = 0 then 0 else if q3 < 2048 then 0 else if 1114111 < q3 then 0 else if q3 < 55296 then 1 else if 57343 < q3 then 1 else 0) : (vd = 0 → own_s4 l c1 c2 c3 v w = 0) ∧ (¬ vd = 0 → own_s4 l c1 c2 c3 v w = 3) := by
  have m1 : (l &&& 15).toInt = l.toInt % 16 := c_mask l 15 4 (by decide) (by decide)
  have e := own_six (l &&& 15) c1 (by omega) (by omega)
  rw [← hq2, m1] at e
  have e2 := own_six q2 c2 (by omega) (by omega)
  rw [← hq3, e] at e2
  have mk := own_mark hr1 hk1
  have mk2 := own_mark2 hr2 hk2
  have vl := own_valid hvd
  rw [own_r3 h1 h2, if_neg h3]
  rw [own_ilt, show (224 : Int32).toInt = 224 from rfl] at h1
  rw [own_ilt, show (240 : Int32).toInt = 240 from rfl] at h2
  simp only [own_ilt, own_ieq l 224, own_ieq l 237, apply_ite Int32.toInt, show (224 : Int32).toInt = 224 from rfl, show (237 : Int32).toInt = 237 from rfl, show (160 : Int32).toInt = 160 from rfl, show (159 : Int32).toInt = 159 from rfl, show (128 : Int32).toInt = 128 from rfl, show (191 : Int32).toInt = 191 from rfl]
  rw [own_l3]
  refine own_ite (vl.trans ?_)
  rw [mk2, mk, show (2048 : Int32).toInt = 2048 from rfl, e2]
  clear hk1 hk2 hq2 hq3 hvd mk mk2 vl e e2 m1
  generalize l.toInt = L at *
  generalize c1.toInt = C1 at *
  generalize c2.toInt = C2 at *
  by_cases A : (128 ≤ C1 ∧ C1 < 192)
  · by_cases B : (128 ≤ C2 ∧ C2 < 192)
    · have f1 : C1 % 64 = C1 - 128 := by omega
      have f2 : C2 % 64 = C2 - 128 := by omega
      have f3 : L % 16 = L - 224 := by omega
      rw [f1, f2, f3]
      omega
    · exact ⟨fun _ => Or.inr (Or.inr (Or.inr (Or.inr B))), fun _ => Or.inl (Or.inr B)⟩
  · exact ⟨fun _ => by omega, fun _ => Or.inl (Or.inl A)⟩
theorem own_l4 {α : Type} (z t : α) (L C1 C2 C3 : Int) : (if 244 < L then z else if C1 < (if L = 240 then 144 else 128) then z else if (if L = 244 then 143 else 191) < C1 then z else if C2 < 128 then z else if 191 < C2 then z else if C3 < 128 then z else if 191 < C3 then z else t) = if (244 < L ∨ (L = 240 ∧ C1 < 144) ∨ C1 < 128 ∨ (L = 244 ∧ 143 < C1) ∨ 191 < C1 ∨ ¬ (128 ≤ C2 ∧ C2 < 192) ∨ ¬ (128 ≤ C3 ∧ C3 < 192)) then z else t := by
  by_cases h : (244 < L ∨ (L = 240 ∧ C1 < 144) ∨ C1 < 128 ∨ (L = 244 ∧ 143 < C1) ∨ 191 < C1 ∨ ¬ (128 ≤ C2 ∧ C2 < 192) ∨ ¬ (128 ≤ C3 ∧ C3 < 192))
  · rw [if_pos h]
    repeat' split
    all_goals first | rfl | (exfalso; omega)
  · rw [if_neg h]
    repeat' split
    all_goals first | rfl | (exfalso; omega)
theorem own_v4 {l c1 c2 c3 v w k1 k2 k3 q2 q3 q4 vd : Int32} (hl : 0 ≤ l.toInt ∧ l.toInt ≤ 255) (hr1 : 0 ≤ c1.toInt ∧ c1.toInt ≤ 255) (hr2 : 0 ≤ c2.toInt ∧ c2.toInt ≤ 255) (hr3 : 0 ≤ c3.toInt ∧ c3.toInt ≤ 255) (h1 : ¬ (l < 240)) (h2 : l < 248) (h3 : ¬ (w < v + 4)) (hk1 : k1 = if c1 &&& 192 = 128 then 1 else 0) (hk2 : k2 = if k1 = 0 then 0 else if c2 &&& 192 = 128 then 1 else 0) (hk3 : k3 = if k2 = 0 then 0 else if c3 &&& 192 = 128 then 1 else 0) (hq2 : q2 = (((l &&& 7) <<< ((6 : Int32) &&& 31)) ||| (c1 &&& 63))) (hq3 : q3 = ((q2 <<< ((6 : Int32) &&& 31)) ||| (c2 &&& 63))) (hq4 : q4 = ((q3 <<< ((6 : Int32) &&& 31)) ||| (c3 &&& 63))) (hvd : vd = if k3 = 0 then 0 else if q4 < 65536 then 0 else if 1114111 < q4 then 0 else if q4 < 55296 then 1 else if 57343 < q4 then 1 else 0) : (vd = 0 → own_s4 l c1 c2 c3 v w = 0) ∧ (¬ vd = 0 → own_s4 l c1 c2 c3 v w = 4) := by
  have m1 : (l &&& 7).toInt = l.toInt % 8 := c_mask l 7 3 (by decide) (by decide)
  have e := own_six (l &&& 7) c1 (by omega) (by omega)
  rw [← hq2, m1] at e
  have e2 := own_six q2 c2 (by omega) (by omega)
  rw [← hq3, e] at e2
  have e3 := own_six q3 c3 (by omega) (by omega)
  rw [← hq4, e2] at e3
  have mk := own_mark hr1 hk1
  have mk2 := own_mark2 hr2 hk2
  have mk3 := own_mark2 hr3 hk3
  have vl := own_valid hvd
  rw [own_r4 h1, if_neg h3]
  rw [own_ilt, show (240 : Int32).toInt = 240 from rfl] at h1
  rw [own_ilt, show (248 : Int32).toInt = 248 from rfl] at h2
  simp only [own_ilt, own_ieq l 240, own_ieq l 244, apply_ite Int32.toInt, show (240 : Int32).toInt = 240 from rfl, show (244 : Int32).toInt = 244 from rfl, show (144 : Int32).toInt = 144 from rfl, show (143 : Int32).toInt = 143 from rfl, show (128 : Int32).toInt = 128 from rfl, show (191 : Int32).toInt = 191 from rfl]
  rw [own_l4]
  refine own_ite (vl.trans ?_)
  rw [mk3, mk2, mk, show (65536 : Int32).toInt = 65536 from rfl, e3]
  clear hk1 hk2 hk3 hq2 hq3 hq4 hvd mk mk2 mk3 vl e e2 e3 m1
  generalize l.toInt = L at *
  generalize c1.toInt = C1 at *
  generalize c2.toInt = C2 at *
  generalize c3.toInt = C3 at *
  by_cases A : (128 ≤ C1 ∧ C1 < 192)
  · by_cases B : (128 ≤ C2 ∧ C2 < 192)
    · by_cases D : (128 ≤ C3 ∧ C3 < 192)
      · have f1 : C1 % 64 = C1 - 128 := by omega
        have f2 : C2 % 64 = C2 - 128 := by omega
        have f4 : C3 % 64 = C3 - 128 := by omega
        have f3 : L % 8 = L - 240 := by omega
        rw [f1, f2, f3, f4]
        omega
      · exact ⟨fun _ => Or.inr (Or.inr (Or.inr (Or.inr (Or.inr (Or.inr D))))), fun _ => Or.inl (Or.inr D)⟩
    · exact ⟨fun _ => Or.inr (Or.inr (Or.inr (Or.inr (Or.inr (Or.inl B))))), fun _ => Or.inl (Or.inl (Or.inr B))⟩
  · exact ⟨fun _ => by omega, fun _ => Or.inl (Or.inl (Or.inl A))⟩

theorem d1_0 : decode prog_19_method_2_code 0 = .ok (.iconst (-1), 1) := by decide +kernel
theorem d1_1 : decode prog_19_method_2_code 1 = .ok (.istore_n 3, 1) := by decide +kernel
theorem d1_2 : decode prog_19_method_2_code 2 = .ok (.iload_n 1, 1) := by decide +kernel
theorem d1_3 : decode prog_19_method_2_code 3 = .ok (.istore 4, 2) := by decide +kernel
theorem d1_5 : decode prog_19_method_2_code 5 = .ok (.iload_n 3, 1) := by decide +kernel
theorem d1_6 : decode prog_19_method_2_code 6 = .ok (.ifCond .ge 308, 3) := by decide +kernel
theorem d1_9 : decode prog_19_method_2_code 9 = .ok (.iload 4, 2) := by decide +kernel
theorem d1_11 : decode prog_19_method_2_code 11 = .ok (.iload_n 2, 1) := by decide +kernel
theorem d1_12 : decode prog_19_method_2_code 12 = .ok (.if_icmp .ge 302, 3) := by decide +kernel
theorem d1_15 : decode prog_19_method_2_code 15 = .ok (.aload_n 0, 1) := by decide +kernel
theorem d1_16 : decode prog_19_method_2_code 16 = .ok (.iload 4, 2) := by decide +kernel
theorem d1_18 : decode prog_19_method_2_code 18 = .ok (.baload, 1) := by decide +kernel
theorem d1_19 : decode prog_19_method_2_code 19 = .ok (.sipush 255, 3) := by decide +kernel
theorem d1_22 : decode prog_19_method_2_code 22 = .ok (.iand, 1) := by decide +kernel
theorem d1_23 : decode prog_19_method_2_code 23 = .ok (.istore 5, 2) := by decide +kernel
theorem d1_25 : decode prog_19_method_2_code 25 = .ok (.iconst 0, 1) := by decide +kernel
theorem d1_26 : decode prog_19_method_2_code 26 = .ok (.istore 6, 2) := by decide +kernel
theorem d1_28 : decode prog_19_method_2_code 28 = .ok (.sipush 128, 3) := by decide +kernel
theorem d1_31 : decode prog_19_method_2_code 31 = .ok (.istore 7, 2) := by decide +kernel
theorem d1_33 : decode prog_19_method_2_code 33 = .ok (.sipush 191, 3) := by decide +kernel
theorem d1_36 : decode prog_19_method_2_code 36 = .ok (.istore 8, 2) := by decide +kernel
theorem d1_38 : decode prog_19_method_2_code 38 = .ok (.iload 5, 2) := by decide +kernel
theorem d1_40 : decode prog_19_method_2_code 40 = .ok (.sipush 128, 3) := by decide +kernel
theorem d1_43 : decode prog_19_method_2_code 43 = .ok (.if_icmp .ge 9, 3) := by decide +kernel
theorem d1_46 : decode prog_19_method_2_code 46 = .ok (.iconst 1, 1) := by decide +kernel
theorem d1_47 : decode prog_19_method_2_code 47 = .ok (.istore 6, 2) := by decide +kernel
theorem d1_49 : decode prog_19_method_2_code 49 = .ok (.goto 138, 3) := by decide +kernel
theorem d1_52 : decode prog_19_method_2_code 52 = .ok (.iload 5, 2) := by decide +kernel
theorem d1_54 : decode prog_19_method_2_code 54 = .ok (.sipush 194, 3) := by decide +kernel
theorem d1_57 : decode prog_19_method_2_code 57 = .ok (.if_icmp .lt 17, 3) := by decide +kernel
theorem d1_60 : decode prog_19_method_2_code 60 = .ok (.iload 5, 2) := by decide +kernel
theorem d1_62 : decode prog_19_method_2_code 62 = .ok (.sipush 223, 3) := by decide +kernel
theorem d1_65 : decode prog_19_method_2_code 65 = .ok (.if_icmp .gt 9, 3) := by decide +kernel
theorem d1_68 : decode prog_19_method_2_code 68 = .ok (.iconst 2, 1) := by decide +kernel
theorem d1_69 : decode prog_19_method_2_code 69 = .ok (.istore 6, 2) := by decide +kernel
theorem d1_71 : decode prog_19_method_2_code 71 = .ok (.goto 116, 3) := by decide +kernel
theorem d1_74 : decode prog_19_method_2_code 74 = .ok (.iload 5, 2) := by decide +kernel
theorem d1_76 : decode prog_19_method_2_code 76 = .ok (.sipush 224, 3) := by decide +kernel
theorem d1_79 : decode prog_19_method_2_code 79 = .ok (.if_icmp .lt 53, 3) := by decide +kernel
theorem d1_82 : decode prog_19_method_2_code 82 = .ok (.iload 5, 2) := by decide +kernel
theorem d1_84 : decode prog_19_method_2_code 84 = .ok (.sipush 239, 3) := by decide +kernel
theorem d1_87 : decode prog_19_method_2_code 87 = .ok (.if_icmp .gt 45, 3) := by decide +kernel
theorem d1_90 : decode prog_19_method_2_code 90 = .ok (.iconst 3, 1) := by decide +kernel
theorem d1_91 : decode prog_19_method_2_code 91 = .ok (.istore 6, 2) := by decide +kernel
theorem d1_93 : decode prog_19_method_2_code 93 = .ok (.iload 5, 2) := by decide +kernel
theorem d1_95 : decode prog_19_method_2_code 95 = .ok (.sipush 224, 3) := by decide +kernel
theorem d1_98 : decode prog_19_method_2_code 98 = .ok (.if_icmp .ne 9, 3) := by decide +kernel
theorem d1_101 : decode prog_19_method_2_code 101 = .ok (.sipush 160, 3) := by decide +kernel
theorem d1_104 : decode prog_19_method_2_code 104 = .ok (.goto 5, 3) := by decide +kernel
theorem d1_107 : decode prog_19_method_2_code 107 = .ok (.iload 7, 2) := by decide +kernel
theorem d1_109 : decode prog_19_method_2_code 109 = .ok (.istore 7, 2) := by decide +kernel
theorem d1_111 : decode prog_19_method_2_code 111 = .ok (.iload 5, 2) := by decide +kernel
theorem d1_113 : decode prog_19_method_2_code 113 = .ok (.sipush 237, 3) := by decide +kernel
theorem d1_116 : decode prog_19_method_2_code 116 = .ok (.if_icmp .ne 9, 3) := by decide +kernel
theorem d1_119 : decode prog_19_method_2_code 119 = .ok (.sipush 159, 3) := by decide +kernel
theorem d1_122 : decode prog_19_method_2_code 122 = .ok (.goto 5, 3) := by decide +kernel
theorem d1_125 : decode prog_19_method_2_code 125 = .ok (.iload 8, 2) := by decide +kernel
theorem d1_127 : decode prog_19_method_2_code 127 = .ok (.istore 8, 2) := by decide +kernel
theorem d1_129 : decode prog_19_method_2_code 129 = .ok (.goto 58, 3) := by decide +kernel
theorem d1_132 : decode prog_19_method_2_code 132 = .ok (.iload 5, 2) := by decide +kernel
theorem d1_134 : decode prog_19_method_2_code 134 = .ok (.sipush 240, 3) := by decide +kernel
theorem d1_137 : decode prog_19_method_2_code 137 = .ok (.if_icmp .lt 50, 3) := by decide +kernel
theorem d1_140 : decode prog_19_method_2_code 140 = .ok (.iload 5, 2) := by decide +kernel
theorem d1_142 : decode prog_19_method_2_code 142 = .ok (.sipush 244, 3) := by decide +kernel
theorem d1_145 : decode prog_19_method_2_code 145 = .ok (.if_icmp .gt 42, 3) := by decide +kernel
theorem d1_148 : decode prog_19_method_2_code 148 = .ok (.iconst 4, 1) := by decide +kernel
theorem d1_149 : decode prog_19_method_2_code 149 = .ok (.istore 6, 2) := by decide +kernel
theorem d1_151 : decode prog_19_method_2_code 151 = .ok (.iload 5, 2) := by decide +kernel
theorem d1_153 : decode prog_19_method_2_code 153 = .ok (.sipush 240, 3) := by decide +kernel
theorem d1_156 : decode prog_19_method_2_code 156 = .ok (.if_icmp .ne 9, 3) := by decide +kernel
theorem d1_159 : decode prog_19_method_2_code 159 = .ok (.sipush 144, 3) := by decide +kernel
theorem d1_162 : decode prog_19_method_2_code 162 = .ok (.goto 5, 3) := by decide +kernel
theorem d1_165 : decode prog_19_method_2_code 165 = .ok (.iload 7, 2) := by decide +kernel
theorem d1_167 : decode prog_19_method_2_code 167 = .ok (.istore 7, 2) := by decide +kernel
theorem d1_169 : decode prog_19_method_2_code 169 = .ok (.iload 5, 2) := by decide +kernel
theorem d1_171 : decode prog_19_method_2_code 171 = .ok (.sipush 244, 3) := by decide +kernel
theorem d1_174 : decode prog_19_method_2_code 174 = .ok (.if_icmp .ne 9, 3) := by decide +kernel
theorem d1_177 : decode prog_19_method_2_code 177 = .ok (.sipush 143, 3) := by decide +kernel
theorem d1_180 : decode prog_19_method_2_code 180 = .ok (.goto 5, 3) := by decide +kernel
theorem d1_183 : decode prog_19_method_2_code 183 = .ok (.iload 8, 2) := by decide +kernel
theorem d1_185 : decode prog_19_method_2_code 185 = .ok (.istore 8, 2) := by decide +kernel
theorem d1_187 : decode prog_19_method_2_code 187 = .ok (.iload 6, 2) := by decide +kernel
theorem d1_189 : decode prog_19_method_2_code 189 = .ok (.ifCond .le 16, 3) := by decide +kernel
theorem d1_192 : decode prog_19_method_2_code 192 = .ok (.iload 4, 2) := by decide +kernel
theorem d1_194 : decode prog_19_method_2_code 194 = .ok (.iload 6, 2) := by decide +kernel
theorem d1_196 : decode prog_19_method_2_code 196 = .ok (.iadd, 1) := by decide +kernel
theorem d1_197 : decode prog_19_method_2_code 197 = .ok (.iload_n 2, 1) := by decide +kernel
theorem d1_198 : decode prog_19_method_2_code 198 = .ok (.if_icmp .gt 7, 3) := by decide +kernel
theorem d1_201 : decode prog_19_method_2_code 201 = .ok (.iconst 1, 1) := by decide +kernel
theorem d1_202 : decode prog_19_method_2_code 202 = .ok (.goto 4, 3) := by decide +kernel
theorem d1_205 : decode prog_19_method_2_code 205 = .ok (.iconst 0, 1) := by decide +kernel
theorem d1_206 : decode prog_19_method_2_code 206 = .ok (.istore 9, 2) := by decide +kernel
theorem d1_208 : decode prog_19_method_2_code 208 = .ok (.iconst 1, 1) := by decide +kernel
theorem d1_209 : decode prog_19_method_2_code 209 = .ok (.istore 10, 2) := by decide +kernel
theorem d1_211 : decode prog_19_method_2_code 211 = .ok (.iload 9, 2) := by decide +kernel
theorem d1_213 : decode prog_19_method_2_code 213 = .ok (.ifCond .eq 80, 3) := by decide +kernel
theorem d1_216 : decode prog_19_method_2_code 216 = .ok (.iload 10, 2) := by decide +kernel
theorem d1_218 : decode prog_19_method_2_code 218 = .ok (.iload 6, 2) := by decide +kernel
theorem d1_220 : decode prog_19_method_2_code 220 = .ok (.if_icmp .ge 73, 3) := by decide +kernel
theorem d1_223 : decode prog_19_method_2_code 223 = .ok (.aload_n 0, 1) := by decide +kernel
theorem d1_224 : decode prog_19_method_2_code 224 = .ok (.iload 4, 2) := by decide +kernel
theorem d1_226 : decode prog_19_method_2_code 226 = .ok (.iload 10, 2) := by decide +kernel
theorem d1_228 : decode prog_19_method_2_code 228 = .ok (.iadd, 1) := by decide +kernel
theorem d1_229 : decode prog_19_method_2_code 229 = .ok (.baload, 1) := by decide +kernel
theorem d1_230 : decode prog_19_method_2_code 230 = .ok (.sipush 255, 3) := by decide +kernel
theorem d1_233 : decode prog_19_method_2_code 233 = .ok (.iand, 1) := by decide +kernel
theorem d1_234 : decode prog_19_method_2_code 234 = .ok (.istore 11, 2) := by decide +kernel
theorem d1_236 : decode prog_19_method_2_code 236 = .ok (.iload 10, 2) := by decide +kernel
theorem d1_238 : decode prog_19_method_2_code 238 = .ok (.iconst 1, 1) := by decide +kernel
theorem d1_239 : decode prog_19_method_2_code 239 = .ok (.if_icmp .ne 25, 3) := by decide +kernel
theorem d1_242 : decode prog_19_method_2_code 242 = .ok (.iload 11, 2) := by decide +kernel
theorem d1_244 : decode prog_19_method_2_code 244 = .ok (.iload 7, 2) := by decide +kernel
theorem d1_246 : decode prog_19_method_2_code 246 = .ok (.if_icmp .lt 14, 3) := by decide +kernel
theorem d1_249 : decode prog_19_method_2_code 249 = .ok (.iload 11, 2) := by decide +kernel
theorem d1_251 : decode prog_19_method_2_code 251 = .ok (.iload 8, 2) := by decide +kernel
theorem d1_253 : decode prog_19_method_2_code 253 = .ok (.if_icmp .gt 7, 3) := by decide +kernel
theorem d1_256 : decode prog_19_method_2_code 256 = .ok (.iconst 1, 1) := by decide +kernel
theorem d1_257 : decode prog_19_method_2_code 257 = .ok (.goto 28, 3) := by decide +kernel
theorem d1_260 : decode prog_19_method_2_code 260 = .ok (.iconst 0, 1) := by decide +kernel
theorem d1_261 : decode prog_19_method_2_code 261 = .ok (.goto 24, 3) := by decide +kernel
theorem d1_264 : decode prog_19_method_2_code 264 = .ok (.iload 11, 2) := by decide +kernel
theorem d1_266 : decode prog_19_method_2_code 266 = .ok (.sipush 128, 3) := by decide +kernel
theorem d1_269 : decode prog_19_method_2_code 269 = .ok (.if_icmp .lt 15, 3) := by decide +kernel
theorem d1_272 : decode prog_19_method_2_code 272 = .ok (.iload 11, 2) := by decide +kernel
theorem d1_274 : decode prog_19_method_2_code 274 = .ok (.sipush 191, 3) := by decide +kernel
theorem d1_277 : decode prog_19_method_2_code 277 = .ok (.if_icmp .gt 7, 3) := by decide +kernel
theorem d1_280 : decode prog_19_method_2_code 280 = .ok (.iconst 1, 1) := by decide +kernel
theorem d1_281 : decode prog_19_method_2_code 281 = .ok (.goto 4, 3) := by decide +kernel
theorem d1_284 : decode prog_19_method_2_code 284 = .ok (.iconst 0, 1) := by decide +kernel
theorem d1_285 : decode prog_19_method_2_code 285 = .ok (.istore 9, 2) := by decide +kernel
theorem d1_287 : decode prog_19_method_2_code 287 = .ok (.iinc 10 1, 3) := by decide +kernel
theorem d1_290 : decode prog_19_method_2_code 290 = .ok (.goto (-79), 3) := by decide +kernel
theorem d1_293 : decode prog_19_method_2_code 293 = .ok (.iload 9, 2) := by decide +kernel
theorem d1_295 : decode prog_19_method_2_code 295 = .ok (.ifCond .eq 13, 3) := by decide +kernel
theorem d1_298 : decode prog_19_method_2_code 298 = .ok (.iload 4, 2) := by decide +kernel
theorem d1_300 : decode prog_19_method_2_code 300 = .ok (.iload 6, 2) := by decide +kernel
theorem d1_302 : decode prog_19_method_2_code 302 = .ok (.iadd, 1) := by decide +kernel
theorem d1_303 : decode prog_19_method_2_code 303 = .ok (.istore 4, 2) := by decide +kernel
theorem d1_305 : decode prog_19_method_2_code 305 = .ok (.goto 6, 3) := by decide +kernel
theorem d1_308 : decode prog_19_method_2_code 308 = .ok (.iload 4, 2) := by decide +kernel
theorem d1_310 : decode prog_19_method_2_code 310 = .ok (.istore_n 3, 1) := by decide +kernel
theorem d1_311 : decode prog_19_method_2_code 311 = .ok (.goto (-306), 3) := by decide +kernel
theorem d1_314 : decode prog_19_method_2_code 314 = .ok (.iload_n 3, 1) := by decide +kernel
theorem d1_315 : decode prog_19_method_2_code 315 = .ok (.ireturn, 1) := by decide +kernel
theorem pn_1 : plainName "com/example/vestwright/vestwright/input/Utf8" = true := by first | (simp [plainName, overriddenIn]; done) | decide +kernel
theorem ef_1 (m : MethodId) (x0 : Addr) (x1 : Int32) (x2 : Int32) : entryFrame m #[(.ref x0), (.int x1), (.int x2)] 12 = mkF m 0 #[.val (.ref x0), .val (.int x1), .val (.int x2), .unset, .unset, .unset, .unset, .unset, .unset, .unset, .unset, .unset] [] := by first | (simp [entryFrame, mkF, argsToLocals, Value.category]; done) | rfl
def Q1 (Z : State) (ch : Addr) (xf : Int32) (xt : Int32) (ff : Nat → Int32) (fu : Nat) (h0 : Heap) (n0 : Nat) (v : Option Value) (h : Heap) (L : List Loc) : Prop := v = some (.int (own_res ff xt fu xf)) ∧ Fr n0 L ∧ h = h0
set_option maxRecDepth 65536 in
set_option maxHeartbeats 40000000 in
theorem rm1 (l : Launch) (Z : State) (a0 : Array Value) (hw : ∀ d ∈ tables_1, d.before a0 Z = true) (ws : List Jvm.Cond) (ch : Addr) (xf : Int32) (xt : Int32) (ff : Nat → Int32) (fu : Nat) (h0 : Heap) (n0 : Nat) (Z0 : n0 ≤ h0.size) (A1 : own_Ai Z h0 ch .byte 4 ff) (H1 : 0 ≤ xf.toInt) (H2 : xf.toInt ≤ xt.toInt) (H3 : xt.toInt ≤ 4) (H4 : xt.toInt - xf.toInt ≤ (fu : Int)) :
    MetFree l (⟨"com/example/vestwright/vestwright/input/Utf8", "firstNotUtf8", "([BII)I"⟩ : MethodName) (head1 (Jvm.Cond.code (⟨"com/example/vestwright/vestwright/input/Utf8", "firstNotUtf8", "([BII)I"⟩ : MethodName) prog_19_method_2_code 12 (some .int) :: ws) ({ frames := 0, cells := 0, slots := 0, locals := 0 } : Room)) (fun a U => a = #[(.ref ch), (.int xf), (.int xt)] ∧ Z.Warmed39 U.vm ∧ U.heap = h0) (fun _ _ _ _ _ => True) (fun _ U o U' => ∃ v L, o = .returned v ∧ Q1 Z ch xf xt ff fu h0 n0 v U'.heap L ∧ FrameEnd U o U' L ({ frames := 0, cells := 0, slots := 0, locals := 0 } : Room).cells ({ frames := 0, cells := 0, slots := 0, locals := 0 } : Room).slots) := by
  refine MetFree.of_bodySF (plainFor_of_name pn_1) hisR ?_
  intro p e s m args below meth c s₁ Bd hml0 hP hK
  obtain ⟨rfl, hZ, hh⟩ := hP
  have hx := Bd.exec
  have hby := Bd.bytes
  have hlk : meth.locks = false := BodyLoose.notSynchronized Bd
  have hml : c.maxLocals = 12 := hml0
  have hown : s.vm.findClass "com/example/vestwright/vestwright/input/Utf8" = some m.cls := findClass_of_methodNamed Bd.named
  have hnm := (name_of_methodNamed Bd.named Bd.method).1
  have X0 : Stand p l e ({ frames := 0, cells := 0, slots := 0, locals := 0 } : Room) s m #[(.ref ch), (.int xf), (.int xt)] below meth c s₁ [] 0 0 := Stand.of_body Bd
  have e0 : s₁.heap = h0 := by rw [← hh, Bd.state]; rfl
  have N0 := Fr.nil n0
  show own_Go p e below (own_G s (Q1 Z ch xf xt ff fu h0 n0) ({ frames := 0, cells := 0, slots := 0, locals := 0 } : Room).cells ({ frames := 0, cells := 0, slots := 0, locals := 0 } : Room).slots) (s₁.setTop (entryFrame m #[(.ref ch), (.int xf), (.int xt)] 12))
  refine own_st (fun tgt k => castTop (ef_1 m ch xf xt) k) ?_
  show own_Go p e below _ (s₁.setTop (mkF m 0 #[.val (.ref ch), .val (.int xf), .val (.int xt), .unset, .unset, .unset, .unset, .unset, .unset, .unset, .unset, .unset] []))
  refine own_st (V := s₁.setTop (mkF m 5 #[.val (.ref ch), .val (.int xf), .val (.int xt), .val (.int (-1 : Int32)), .val (.int xf), .unset, .unset, .unset, .unset, .unset, .unset, .unset] [])) (fun tgt k => ?_) ?_
  · show Steps p.tables e below (s₁.setTop (mkF m 0 #[.val (.ref ch), .val (.int xf), .val (.int xt), .unset, .unset, .unset, .unset, .unset, .unset, .unset, .unset, .unset] [])) tgt
    refine XS.iconst X0.here hx rfl (hb hby d1_0) ?_
    show Steps p.tables e below (s₁.setTop (mkF m 1 #[.val (.ref ch), .val (.int xf), .val (.int xt), .unset, .unset, .unset, .unset, .unset, .unset, .unset, .unset, .unset] [(.int (-1 : Int32))])) tgt
    refine XS.istoreN X0.here hx rfl (hb hby d1_1) rfl (l' := #[.val (.ref ch), .val (.int xf), .val (.int xt), .val (.int (-1 : Int32)), .unset, .unset, .unset, .unset, .unset, .unset, .unset, .unset]) rfl ?_
    show Steps p.tables e below (s₁.setTop (mkF m 2 #[.val (.ref ch), .val (.int xf), .val (.int xt), .val (.int (-1 : Int32)), .unset, .unset, .unset, .unset, .unset, .unset, .unset, .unset] [])) tgt
    refine XS.iloadN X0.here hx rfl (hb hby d1_2) rfl ?_
    show Steps p.tables e below (s₁.setTop (mkF m 3 #[.val (.ref ch), .val (.int xf), .val (.int xt), .val (.int (-1 : Int32)), .unset, .unset, .unset, .unset, .unset, .unset, .unset, .unset] [(.int xf)])) tgt
    refine XS.istore X0.here hx rfl (hb hby d1_3) rfl (l' := #[.val (.ref ch), .val (.int xf), .val (.int xt), .val (.int (-1 : Int32)), .val (.int xf), .unset, .unset, .unset, .unset, .unset, .unset, .unset]) rfl ?_
    exact k
  have loop : ∀ (n : Nat) (iv : Int32) (s5 s6 s7 s8 s9 s10 s11 : Slot), One s5 → One s6 → One s7 → One s8 → One s9 → One s10 → One s11 → 0 ≤ iv.toInt → iv.toInt ≤ xt.toInt → xt.toInt - iv.toInt ≤ (n : Int) → own_res ff xt n iv = own_res ff xt fu xf → own_Go p e below (own_G s (Q1 Z ch xf xt ff fu h0 n0) ({ frames := 0, cells := 0, slots := 0, locals := 0 } : Room).cells ({ frames := 0, cells := 0, slots := 0, locals := 0 } : Room).slots) (s₁.setTop (mkF m 5 #[.val (.ref ch), .val (.int xf), .val (.int xt), .val (.int (-1 : Int32)), .val (.int iv), s5, s6, s7, s8, s9, s10, s11] [])) := by
    intro n
    induction n with
    | zero =>
      intro iv s5 s6 s7 s8 s9 s10 s11 o5 o6 o7 o8 o9 o10 o11 hi0 hi1 hi2 hE
      refine own_st (V := s₁.setTop (mkF m 315 #[.val (.ref ch), .val (.int xf), .val (.int xt), .val (.int (-1 : Int32)), .val (.int iv), s5, s6, s7, s8, s9, s10, s11] [(.int (-1 : Int32))])) (fun tgt k => ?_) ?_
      · show Steps p.tables e below (s₁.setTop (mkF m 5 #[.val (.ref ch), .val (.int xf), .val (.int xt), .val (.int (-1 : Int32)), .val (.int iv), s5, s6, s7, s8, s9, s10, s11] [])) tgt
        refine XS.iloadN X0.here hx rfl (hb hby d1_5) rfl ?_
        show Steps p.tables e below (s₁.setTop (mkF m 6 #[.val (.ref ch), .val (.int xf), .val (.int xt), .val (.int (-1 : Int32)), .val (.int iv), s5, s6, s7, s8, s9, s10, s11] [(.int (-1 : Int32))])) tgt
        refine XS.ifNo X0.here hx rfl (hb hby d1_6) rfl ((if0 _ _).trans (tlt (by decide : (-1 : Int32) < (0 : Int32))).2.1) ?_
        show Steps p.tables e below (s₁.setTop (mkF m 9 #[.val (.ref ch), .val (.int xf), .val (.int xt), .val (.int (-1 : Int32)), .val (.int iv), s5, s6, s7, s8, s9, s10, s11] [])) tgt
        refine XS.iload X0.here hx rfl (hb hby d1_9) rfl ?_
        show Steps p.tables e below (s₁.setTop (mkF m 11 #[.val (.ref ch), .val (.int xf), .val (.int xt), .val (.int (-1 : Int32)), .val (.int iv), s5, s6, s7, s8, s9, s10, s11] [(.int iv)])) tgt
        refine XS.iloadN X0.here hx rfl (hb hby d1_11) rfl ?_
        show Steps p.tables e below (s₁.setTop (mkF m 12 #[.val (.ref ch), .val (.int xf), .val (.int xt), .val (.int (-1 : Int32)), .val (.int iv), s5, s6, s7, s8, s9, s10, s11] [(.int xt), (.int iv)])) tgt
        refine XS.icmpYes X0.here hx rfl (pc0 := 12) (pc' := 314) rfl (hb hby d1_12) rfl (flt (by rw [own_ilt]; omega)).2.1 (by decide) (by decide) ?_
        show Steps p.tables e below (s₁.setTop (mkF m 314 #[.val (.ref ch), .val (.int xf), .val (.int xt), .val (.int (-1 : Int32)), .val (.int iv), s5, s6, s7, s8, s9, s10, s11] [])) tgt
        refine XS.iloadN X0.here hx rfl (hb hby d1_314) rfl ?_
        exact k
      refine own_retI X0 hx hlk Bd.returns (hb hby d1_315) ?_ (by decide) (by decide)
      show Q1 Z ch xf xt ff fu h0 n0 (some (.int (-1 : Int32))) s₁.heap _
      rw [e0]
      refine ⟨?_, N0, rfl⟩
      exact congrArg (fun q => some (Value.int q)) (by rw [← hE]; rfl)
    | succ n ih =>
      intro iv s5 s6 s7 s8 s9 s10 s11 o5 o6 o7 o8 o9 o10 o11 hi0 hi1 hi2 hE
      have a1 : (iv + (1 : Int32)).toInt = ((iv.toInt.toNat + 1 : Nat) : Int) := own_ai hi0 (by omega) (by decide) (by decide)
      have a2 : (iv + (2 : Int32)).toInt = ((iv.toInt.toNat + 2 : Nat) : Int) := own_ai hi0 (by omega) (by decide) (by decide)
      have a3 : (iv + (3 : Int32)).toInt = ((iv.toInt.toNat + 3 : Nat) : Int) := own_ai hi0 (by omega) (by decide) (by decide)
      have a4 : (iv + (4 : Int32)).toInt = ((iv.toInt.toNat + 4 : Nat) : Int) := own_ai hi0 (by omega) (by decide) (by decide)
      refine own_st (V := s₁.setTop (mkF m 12 #[.val (.ref ch), .val (.int xf), .val (.int xt), .val (.int (-1 : Int32)), .val (.int iv), s5, s6, s7, s8, s9, s10, s11] [(.int xt), (.int iv)])) (fun tgt k => ?_) ?_
      · show Steps p.tables e below (s₁.setTop (mkF m 5 #[.val (.ref ch), .val (.int xf), .val (.int xt), .val (.int (-1 : Int32)), .val (.int iv), s5, s6, s7, s8, s9, s10, s11] [])) tgt
        refine XS.iloadN X0.here hx rfl (hb hby d1_5) rfl ?_
        show Steps p.tables e below (s₁.setTop (mkF m 6 #[.val (.ref ch), .val (.int xf), .val (.int xt), .val (.int (-1 : Int32)), .val (.int iv), s5, s6, s7, s8, s9, s10, s11] [(.int (-1 : Int32))])) tgt
        refine XS.ifNo X0.here hx rfl (hb hby d1_6) rfl ((if0 _ _).trans (tlt (by decide : (-1 : Int32) < (0 : Int32))).2.1) ?_
        show Steps p.tables e below (s₁.setTop (mkF m 9 #[.val (.ref ch), .val (.int xf), .val (.int xt), .val (.int (-1 : Int32)), .val (.int iv), s5, s6, s7, s8, s9, s10, s11] [])) tgt
        refine XS.iload X0.here hx rfl (hb hby d1_9) rfl ?_
        show Steps p.tables e below (s₁.setTop (mkF m 11 #[.val (.ref ch), .val (.int xf), .val (.int xt), .val (.int (-1 : Int32)), .val (.int iv), s5, s6, s7, s8, s9, s10, s11] [(.int iv)])) tgt
        refine XS.iloadN X0.here hx rfl (hb hby d1_11) rfl ?_
        exact k
      by_cases hc12 : iv < xt
      · skip
        refine own_st (V := s₁.setTop (mkF m 43 #[.val (.ref ch), .val (.int xf), .val (.int xt), .val (.int (-1 : Int32)), .val (.int iv), .val (.int ((ff iv.toInt.toNat) &&& (255 : Int32))), .val (.int (0 : Int32)), .val (.int (128 : Int32)), .val (.int (191 : Int32)), s9, s10, s11] [(.int (128 : Int32)), (.int ((ff iv.toInt.toNat) &&& (255 : Int32)))])) (fun tgt k => ?_) ?_
        · show Steps p.tables e below (s₁.setTop (mkF m 12 #[.val (.ref ch), .val (.int xf), .val (.int xt), .val (.int (-1 : Int32)), .val (.int iv), s5, s6, s7, s8, s9, s10, s11] [(.int xt), (.int iv)])) tgt
          refine XS.icmpNo X0.here hx rfl (hb hby d1_12) rfl (tlt hc12).2.1 ?_
          show Steps p.tables e below (s₁.setTop (mkF m 15 #[.val (.ref ch), .val (.int xf), .val (.int xt), .val (.int (-1 : Int32)), .val (.int iv), s5, s6, s7, s8, s9, s10, s11] [])) tgt
          refine XS.aloadN X0.here hx rfl (hb hby d1_15) rfl rfl ?_
          show Steps p.tables e below (s₁.setTop (mkF m 16 #[.val (.ref ch), .val (.int xf), .val (.int xt), .val (.int (-1 : Int32)), .val (.int iv), s5, s6, s7, s8, s9, s10, s11] [(.ref ch)])) tgt
          refine XS.iload X0.here hx rfl (hb hby d1_16) rfl ?_
          show Steps p.tables e below (s₁.setTop (mkF m 18 #[.val (.ref ch), .val (.int xf), .val (.int xt), .val (.int (-1 : Int32)), .val (.int iv), s5, s6, s7, s8, s9, s10, s11] [(.int iv), (.ref ch)])) tgt
          refine own_baload X0 hx hZ e0 A1 (j := iv) (k := iv.toInt.toNat) (by omega) (by rw [own_ilt] at hc12; omega) (g := (mkF m 18 #[.val (.ref ch), .val (.int xf), .val (.int xt), .val (.int (-1 : Int32)), .val (.int iv), s5, s6, s7, s8, s9, s10, s11] [(.int iv), (.ref ch)])) rfl rfl (hb hby d1_18) ?_
          show Steps p.tables e below (s₁.setTop (mkF m 19 #[.val (.ref ch), .val (.int xf), .val (.int xt), .val (.int (-1 : Int32)), .val (.int iv), s5, s6, s7, s8, s9, s10, s11] [(.int (ff iv.toInt.toNat))])) tgt
          refine XS.sipush X0.here hx rfl (hb hby d1_19) ?_
          show Steps p.tables e below (s₁.setTop (mkF m 22 #[.val (.ref ch), .val (.int xf), .val (.int xt), .val (.int (-1 : Int32)), .val (.int iv), s5, s6, s7, s8, s9, s10, s11] [(.int (255 : Int32)), (.int (ff iv.toInt.toNat))])) tgt
          refine XS.iand X0.here hx rfl (hb hby d1_22) rfl ?_
          show Steps p.tables e below (s₁.setTop (mkF m 23 #[.val (.ref ch), .val (.int xf), .val (.int xt), .val (.int (-1 : Int32)), .val (.int iv), s5, s6, s7, s8, s9, s10, s11] [(.int ((ff iv.toInt.toNat) &&& (255 : Int32)))])) tgt
          refine XS.istoreS X0.here hx rfl (hb hby d1_23) rfl rfl o5 ?_
          show Steps p.tables e below (s₁.setTop (mkF m 25 #[.val (.ref ch), .val (.int xf), .val (.int xt), .val (.int (-1 : Int32)), .val (.int iv), .val (.int ((ff iv.toInt.toNat) &&& (255 : Int32))), s6, s7, s8, s9, s10, s11] [])) tgt
          refine XS.iconst X0.here hx rfl (hb hby d1_25) ?_
          show Steps p.tables e below (s₁.setTop (mkF m 26 #[.val (.ref ch), .val (.int xf), .val (.int xt), .val (.int (-1 : Int32)), .val (.int iv), .val (.int ((ff iv.toInt.toNat) &&& (255 : Int32))), s6, s7, s8, s9, s10, s11] [(.int (0 : Int32))])) tgt
          refine XS.istoreS X0.here hx rfl (hb hby d1_26) rfl rfl o6 ?_
          show Steps p.tables e below (s₁.setTop (mkF m 28 #[.val (.ref ch), .val (.int xf), .val (.int xt), .val (.int (-1 : Int32)), .val (.int iv), .val (.int ((ff iv.toInt.toNat) &&& (255 : Int32))), .val (.int (0 : Int32)), s7, s8, s9, s10, s11] [])) tgt
          refine XS.sipush X0.here hx rfl (hb hby d1_28) ?_
          show Steps p.tables e below (s₁.setTop (mkF m 31 #[.val (.ref ch), .val (.int xf), .val (.int xt), .val (.int (-1 : Int32)), .val (.int iv), .val (.int ((ff iv.toInt.toNat) &&& (255 : Int32))), .val (.int (0 : Int32)), s7, s8, s9, s10, s11] [(.int (128 : Int32))])) tgt
          refine XS.istoreS X0.here hx rfl (hb hby d1_31) rfl rfl o7 ?_
          show Steps p.tables e below (s₁.setTop (mkF m 33 #[.val (.ref ch), .val (.int xf), .val (.int xt), .val (.int (-1 : Int32)), .val (.int iv), .val (.int ((ff iv.toInt.toNat) &&& (255 : Int32))), .val (.int (0 : Int32)), .val (.int (128 : Int32)), s8, s9, s10, s11] [])) tgt
          refine XS.sipush X0.here hx rfl (hb hby d1_33) ?_
          show Steps p.tables e below (s₁.setTop (mkF m 36 #[.val (.ref ch), .val (.int xf), .val (.int xt), .val (.int (-1 : Int32)), .val (.int iv), .val (.int ((ff iv.toInt.toNat) &&& (255 : Int32))), .val (.int (0 : Int32)), .val (.int (128 : Int32)), s8, s9, s10, s11] [(.int (191 : Int32))])) tgt
          refine XS.istoreS X0.here hx rfl (hb hby d1_36) rfl rfl o8 ?_
          show Steps p.tables e below (s₁.setTop (mkF m 38 #[.val (.ref ch), .val (.int xf), .val (.int xt), .val (.int (-1 : Int32)), .val (.int iv), .val (.int ((ff iv.toInt.toNat) &&& (255 : Int32))), .val (.int (0 : Int32)), .val (.int (128 : Int32)), .val (.int (191 : Int32)), s9, s10, s11] [])) tgt
          refine XS.iload X0.here hx rfl (hb hby d1_38) rfl ?_
          show Steps p.tables e below (s₁.setTop (mkF m 40 #[.val (.ref ch), .val (.int xf), .val (.int xt), .val (.int (-1 : Int32)), .val (.int iv), .val (.int ((ff iv.toInt.toNat) &&& (255 : Int32))), .val (.int (0 : Int32)), .val (.int (128 : Int32)), .val (.int (191 : Int32)), s9, s10, s11] [(.int ((ff iv.toInt.toNat) &&& (255 : Int32)))])) tgt
          refine XS.sipush X0.here hx rfl (hb hby d1_40) ?_
          exact k
        by_cases hc43 : ((ff iv.toInt.toNat) &&& (255 : Int32)) < (128 : Int32)
        · skip
          refine own_st (V := s₁.setTop (mkF m 201 #[.val (.ref ch), .val (.int xf), .val (.int xt), .val (.int (-1 : Int32)), .val (.int iv), .val (.int ((ff iv.toInt.toNat) &&& (255 : Int32))), .val (.int (1 : Int32)), .val (.int (128 : Int32)), .val (.int (191 : Int32)), s9, s10, s11] [])) (fun tgt k => ?_) ?_
          · show Steps p.tables e below (s₁.setTop (mkF m 43 #[.val (.ref ch), .val (.int xf), .val (.int xt), .val (.int (-1 : Int32)), .val (.int iv), .val (.int ((ff iv.toInt.toNat) &&& (255 : Int32))), .val (.int (0 : Int32)), .val (.int (128 : Int32)), .val (.int (191 : Int32)), s9, s10, s11] [(.int (128 : Int32)), (.int ((ff iv.toInt.toNat) &&& (255 : Int32)))])) tgt
            refine XS.icmpNo X0.here hx rfl (hb hby d1_43) rfl (tlt hc43).2.1 ?_
            show Steps p.tables e below (s₁.setTop (mkF m 46 #[.val (.ref ch), .val (.int xf), .val (.int xt), .val (.int (-1 : Int32)), .val (.int iv), .val (.int ((ff iv.toInt.toNat) &&& (255 : Int32))), .val (.int (0 : Int32)), .val (.int (128 : Int32)), .val (.int (191 : Int32)), s9, s10, s11] [])) tgt
            refine XS.iconst X0.here hx rfl (hb hby d1_46) ?_
            show Steps p.tables e below (s₁.setTop (mkF m 47 #[.val (.ref ch), .val (.int xf), .val (.int xt), .val (.int (-1 : Int32)), .val (.int iv), .val (.int ((ff iv.toInt.toNat) &&& (255 : Int32))), .val (.int (0 : Int32)), .val (.int (128 : Int32)), .val (.int (191 : Int32)), s9, s10, s11] [(.int (1 : Int32))])) tgt
            refine XS.istore X0.here hx rfl (hb hby d1_47) rfl (l' := #[.val (.ref ch), .val (.int xf), .val (.int xt), .val (.int (-1 : Int32)), .val (.int iv), .val (.int ((ff iv.toInt.toNat) &&& (255 : Int32))), .val (.int (1 : Int32)), .val (.int (128 : Int32)), .val (.int (191 : Int32)), s9, s10, s11]) rfl ?_
            show Steps p.tables e below (s₁.setTop (mkF m 49 #[.val (.ref ch), .val (.int xf), .val (.int xt), .val (.int (-1 : Int32)), .val (.int iv), .val (.int ((ff iv.toInt.toNat) &&& (255 : Int32))), .val (.int (1 : Int32)), .val (.int (128 : Int32)), .val (.int (191 : Int32)), s9, s10, s11] [])) tgt
            refine XS.goto X0.here hx rfl (pc0 := 49) (pc' := 187) rfl (hb hby d1_49) (by decide) (by decide) ?_
            show Steps p.tables e below (s₁.setTop (mkF m 187 #[.val (.ref ch), .val (.int xf), .val (.int xt), .val (.int (-1 : Int32)), .val (.int iv), .val (.int ((ff iv.toInt.toNat) &&& (255 : Int32))), .val (.int (1 : Int32)), .val (.int (128 : Int32)), .val (.int (191 : Int32)), s9, s10, s11] [])) tgt
            refine XS.iload X0.here hx rfl (hb hby d1_187) rfl ?_
            show Steps p.tables e below (s₁.setTop (mkF m 189 #[.val (.ref ch), .val (.int xf), .val (.int xt), .val (.int (-1 : Int32)), .val (.int iv), .val (.int ((ff iv.toInt.toNat) &&& (255 : Int32))), .val (.int (1 : Int32)), .val (.int (128 : Int32)), .val (.int (191 : Int32)), s9, s10, s11] [(.int (1 : Int32))])) tgt
            refine XS.ifNo X0.here hx rfl (hb hby d1_189) rfl ((if0 _ _).trans (tlt (by decide : (0 : Int32) < (1 : Int32))).2.2.2) ?_
            show Steps p.tables e below (s₁.setTop (mkF m 192 #[.val (.ref ch), .val (.int xf), .val (.int xt), .val (.int (-1 : Int32)), .val (.int iv), .val (.int ((ff iv.toInt.toNat) &&& (255 : Int32))), .val (.int (1 : Int32)), .val (.int (128 : Int32)), .val (.int (191 : Int32)), s9, s10, s11] [])) tgt
            refine XS.iload X0.here hx rfl (hb hby d1_192) rfl ?_
            show Steps p.tables e below (s₁.setTop (mkF m 194 #[.val (.ref ch), .val (.int xf), .val (.int xt), .val (.int (-1 : Int32)), .val (.int iv), .val (.int ((ff iv.toInt.toNat) &&& (255 : Int32))), .val (.int (1 : Int32)), .val (.int (128 : Int32)), .val (.int (191 : Int32)), s9, s10, s11] [(.int iv)])) tgt
            refine XS.iload X0.here hx rfl (hb hby d1_194) rfl ?_
            show Steps p.tables e below (s₁.setTop (mkF m 196 #[.val (.ref ch), .val (.int xf), .val (.int xt), .val (.int (-1 : Int32)), .val (.int iv), .val (.int ((ff iv.toInt.toNat) &&& (255 : Int32))), .val (.int (1 : Int32)), .val (.int (128 : Int32)), .val (.int (191 : Int32)), s9, s10, s11] [(.int (1 : Int32)), (.int iv)])) tgt
            refine XS.iadd X0.here hx rfl (hb hby d1_196) rfl ?_
            show Steps p.tables e below (s₁.setTop (mkF m 197 #[.val (.ref ch), .val (.int xf), .val (.int xt), .val (.int (-1 : Int32)), .val (.int iv), .val (.int ((ff iv.toInt.toNat) &&& (255 : Int32))), .val (.int (1 : Int32)), .val (.int (128 : Int32)), .val (.int (191 : Int32)), s9, s10, s11] [(.int (iv + (1 : Int32)))])) tgt
            refine XS.iloadN X0.here hx rfl (hb hby d1_197) rfl ?_
            show Steps p.tables e below (s₁.setTop (mkF m 198 #[.val (.ref ch), .val (.int xf), .val (.int xt), .val (.int (-1 : Int32)), .val (.int iv), .val (.int ((ff iv.toInt.toNat) &&& (255 : Int32))), .val (.int (1 : Int32)), .val (.int (128 : Int32)), .val (.int (191 : Int32)), s9, s10, s11] [(.int xt), (.int (iv + (1 : Int32)))])) tgt
            refine XS.icmpNo X0.here hx rfl (hb hby d1_198) rfl (flt (by rw [own_ilt, a1]; rw [own_ilt] at hc12; omega)).2.2.1 ?_
            exact k
          have hfit : iv.toInt + 1 ≤ xt.toInt := by rw [own_ilt] at hc12; omega
          refine own_st (V := s₁.setTop (mkF m 5 #[.val (.ref ch), .val (.int xf), .val (.int xt), .val (.int (-1 : Int32)), .val (.int (iv + (1 : Int32))), .val (.int ((ff iv.toInt.toNat) &&& (255 : Int32))), .val (.int (1 : Int32)), .val (.int (128 : Int32)), .val (.int (191 : Int32)), .val (.int (1 : Int32)), .val (.int (1 : Int32)), s11] [])) (fun tgt k => ?_) ?_
          · show Steps p.tables e below (s₁.setTop (mkF m 201 #[.val (.ref ch), .val (.int xf), .val (.int xt), .val (.int (-1 : Int32)), .val (.int iv), .val (.int ((ff iv.toInt.toNat) &&& (255 : Int32))), .val (.int (1 : Int32)), .val (.int (128 : Int32)), .val (.int (191 : Int32)), s9, s10, s11] [])) tgt
            refine XS.iconst X0.here hx rfl (hb hby d1_201) ?_
            show Steps p.tables e below (s₁.setTop (mkF m 202 #[.val (.ref ch), .val (.int xf), .val (.int xt), .val (.int (-1 : Int32)), .val (.int iv), .val (.int ((ff iv.toInt.toNat) &&& (255 : Int32))), .val (.int (1 : Int32)), .val (.int (128 : Int32)), .val (.int (191 : Int32)), s9, s10, s11] [(.int (1 : Int32))])) tgt
            refine XS.goto X0.here hx rfl (pc0 := 202) (pc' := 206) rfl (hb hby d1_202) (by decide) (by decide) ?_
            show Steps p.tables e below (s₁.setTop (mkF m 206 #[.val (.ref ch), .val (.int xf), .val (.int xt), .val (.int (-1 : Int32)), .val (.int iv), .val (.int ((ff iv.toInt.toNat) &&& (255 : Int32))), .val (.int (1 : Int32)), .val (.int (128 : Int32)), .val (.int (191 : Int32)), s9, s10, s11] [(.int (1 : Int32))])) tgt
            refine XS.istoreS X0.here hx rfl (hb hby d1_206) rfl rfl o9 ?_
            show Steps p.tables e below (s₁.setTop (mkF m 208 #[.val (.ref ch), .val (.int xf), .val (.int xt), .val (.int (-1 : Int32)), .val (.int iv), .val (.int ((ff iv.toInt.toNat) &&& (255 : Int32))), .val (.int (1 : Int32)), .val (.int (128 : Int32)), .val (.int (191 : Int32)), .val (.int (1 : Int32)), s10, s11] [])) tgt
            refine XS.iconst X0.here hx rfl (hb hby d1_208) ?_
            show Steps p.tables e below (s₁.setTop (mkF m 209 #[.val (.ref ch), .val (.int xf), .val (.int xt), .val (.int (-1 : Int32)), .val (.int iv), .val (.int ((ff iv.toInt.toNat) &&& (255 : Int32))), .val (.int (1 : Int32)), .val (.int (128 : Int32)), .val (.int (191 : Int32)), .val (.int (1 : Int32)), s10, s11] [(.int (1 : Int32))])) tgt
            refine XS.istoreS X0.here hx rfl (hb hby d1_209) rfl rfl o10 ?_
            show Steps p.tables e below (s₁.setTop (mkF m 211 #[.val (.ref ch), .val (.int xf), .val (.int xt), .val (.int (-1 : Int32)), .val (.int iv), .val (.int ((ff iv.toInt.toNat) &&& (255 : Int32))), .val (.int (1 : Int32)), .val (.int (128 : Int32)), .val (.int (191 : Int32)), .val (.int (1 : Int32)), .val (.int (1 : Int32)), s11] [])) tgt
            refine XS.iload X0.here hx rfl (hb hby d1_211) rfl ?_
            show Steps p.tables e below (s₁.setTop (mkF m 213 #[.val (.ref ch), .val (.int xf), .val (.int xt), .val (.int (-1 : Int32)), .val (.int iv), .val (.int ((ff iv.toInt.toNat) &&& (255 : Int32))), .val (.int (1 : Int32)), .val (.int (128 : Int32)), .val (.int (191 : Int32)), .val (.int (1 : Int32)), .val (.int (1 : Int32)), s11] [(.int (1 : Int32))])) tgt
            refine XS.ifNo X0.here hx rfl (hb hby d1_213) rfl ((if0 _ _).trans (feq (by decide : ¬ ((1 : Int32) = (0 : Int32)))).1) ?_
            show Steps p.tables e below (s₁.setTop (mkF m 216 #[.val (.ref ch), .val (.int xf), .val (.int xt), .val (.int (-1 : Int32)), .val (.int iv), .val (.int ((ff iv.toInt.toNat) &&& (255 : Int32))), .val (.int (1 : Int32)), .val (.int (128 : Int32)), .val (.int (191 : Int32)), .val (.int (1 : Int32)), .val (.int (1 : Int32)), s11] [])) tgt
            refine XS.iload X0.here hx rfl (hb hby d1_216) rfl ?_
            show Steps p.tables e below (s₁.setTop (mkF m 218 #[.val (.ref ch), .val (.int xf), .val (.int xt), .val (.int (-1 : Int32)), .val (.int iv), .val (.int ((ff iv.toInt.toNat) &&& (255 : Int32))), .val (.int (1 : Int32)), .val (.int (128 : Int32)), .val (.int (191 : Int32)), .val (.int (1 : Int32)), .val (.int (1 : Int32)), s11] [(.int (1 : Int32))])) tgt
            refine XS.iload X0.here hx rfl (hb hby d1_218) rfl ?_
            show Steps p.tables e below (s₁.setTop (mkF m 220 #[.val (.ref ch), .val (.int xf), .val (.int xt), .val (.int (-1 : Int32)), .val (.int iv), .val (.int ((ff iv.toInt.toNat) &&& (255 : Int32))), .val (.int (1 : Int32)), .val (.int (128 : Int32)), .val (.int (191 : Int32)), .val (.int (1 : Int32)), .val (.int (1 : Int32)), s11] [(.int (1 : Int32)), (.int (1 : Int32))])) tgt
            refine XS.icmpYes X0.here hx rfl (pc0 := 220) (pc' := 293) rfl (hb hby d1_220) rfl (flt (by decide : ¬ ((1 : Int32) < (1 : Int32)))).2.1 (by decide) (by decide) ?_
            show Steps p.tables e below (s₁.setTop (mkF m 293 #[.val (.ref ch), .val (.int xf), .val (.int xt), .val (.int (-1 : Int32)), .val (.int iv), .val (.int ((ff iv.toInt.toNat) &&& (255 : Int32))), .val (.int (1 : Int32)), .val (.int (128 : Int32)), .val (.int (191 : Int32)), .val (.int (1 : Int32)), .val (.int (1 : Int32)), s11] [])) tgt
            refine XS.iload X0.here hx rfl (hb hby d1_293) rfl ?_
            show Steps p.tables e below (s₁.setTop (mkF m 295 #[.val (.ref ch), .val (.int xf), .val (.int xt), .val (.int (-1 : Int32)), .val (.int iv), .val (.int ((ff iv.toInt.toNat) &&& (255 : Int32))), .val (.int (1 : Int32)), .val (.int (128 : Int32)), .val (.int (191 : Int32)), .val (.int (1 : Int32)), .val (.int (1 : Int32)), s11] [(.int (1 : Int32))])) tgt
            refine XS.ifNo X0.here hx rfl (hb hby d1_295) rfl ((if0 _ _).trans (feq (by decide : ¬ ((1 : Int32) = (0 : Int32)))).1) ?_
            show Steps p.tables e below (s₁.setTop (mkF m 298 #[.val (.ref ch), .val (.int xf), .val (.int xt), .val (.int (-1 : Int32)), .val (.int iv), .val (.int ((ff iv.toInt.toNat) &&& (255 : Int32))), .val (.int (1 : Int32)), .val (.int (128 : Int32)), .val (.int (191 : Int32)), .val (.int (1 : Int32)), .val (.int (1 : Int32)), s11] [])) tgt
            refine XS.iload X0.here hx rfl (hb hby d1_298) rfl ?_
            show Steps p.tables e below (s₁.setTop (mkF m 300 #[.val (.ref ch), .val (.int xf), .val (.int xt), .val (.int (-1 : Int32)), .val (.int iv), .val (.int ((ff iv.toInt.toNat) &&& (255 : Int32))), .val (.int (1 : Int32)), .val (.int (128 : Int32)), .val (.int (191 : Int32)), .val (.int (1 : Int32)), .val (.int (1 : Int32)), s11] [(.int iv)])) tgt
            refine XS.iload X0.here hx rfl (hb hby d1_300) rfl ?_
            show Steps p.tables e below (s₁.setTop (mkF m 302 #[.val (.ref ch), .val (.int xf), .val (.int xt), .val (.int (-1 : Int32)), .val (.int iv), .val (.int ((ff iv.toInt.toNat) &&& (255 : Int32))), .val (.int (1 : Int32)), .val (.int (128 : Int32)), .val (.int (191 : Int32)), .val (.int (1 : Int32)), .val (.int (1 : Int32)), s11] [(.int (1 : Int32)), (.int iv)])) tgt
            refine XS.iadd X0.here hx rfl (hb hby d1_302) rfl ?_
            show Steps p.tables e below (s₁.setTop (mkF m 303 #[.val (.ref ch), .val (.int xf), .val (.int xt), .val (.int (-1 : Int32)), .val (.int iv), .val (.int ((ff iv.toInt.toNat) &&& (255 : Int32))), .val (.int (1 : Int32)), .val (.int (128 : Int32)), .val (.int (191 : Int32)), .val (.int (1 : Int32)), .val (.int (1 : Int32)), s11] [(.int (iv + (1 : Int32)))])) tgt
            refine XS.istore X0.here hx rfl (hb hby d1_303) rfl (l' := #[.val (.ref ch), .val (.int xf), .val (.int xt), .val (.int (-1 : Int32)), .val (.int (iv + (1 : Int32))), .val (.int ((ff iv.toInt.toNat) &&& (255 : Int32))), .val (.int (1 : Int32)), .val (.int (128 : Int32)), .val (.int (191 : Int32)), .val (.int (1 : Int32)), .val (.int (1 : Int32)), s11]) rfl ?_
            show Steps p.tables e below (s₁.setTop (mkF m 305 #[.val (.ref ch), .val (.int xf), .val (.int xt), .val (.int (-1 : Int32)), .val (.int (iv + (1 : Int32))), .val (.int ((ff iv.toInt.toNat) &&& (255 : Int32))), .val (.int (1 : Int32)), .val (.int (128 : Int32)), .val (.int (191 : Int32)), .val (.int (1 : Int32)), .val (.int (1 : Int32)), s11] [])) tgt
            refine XS.goto X0.here hx rfl (pc0 := 305) (pc' := 311) rfl (hb hby d1_305) (by decide) (by decide) ?_
            show Steps p.tables e below (s₁.setTop (mkF m 311 #[.val (.ref ch), .val (.int xf), .val (.int xt), .val (.int (-1 : Int32)), .val (.int (iv + (1 : Int32))), .val (.int ((ff iv.toInt.toNat) &&& (255 : Int32))), .val (.int (1 : Int32)), .val (.int (128 : Int32)), .val (.int (191 : Int32)), .val (.int (1 : Int32)), .val (.int (1 : Int32)), s11] [])) tgt
            refine XS.goto X0.here hx rfl (pc0 := 311) (pc' := 5) rfl (hb hby d1_311) (by decide) (by decide) ?_
            exact k
          have hS : own_S ff iv xt = (1 : Int32) := by unfold own_S own_s4; rw [if_pos hc43]
          exact ih (iv + (1 : Int32)) _ _ _ _ _ _ _ (One.val rfl) (One.val rfl) (One.val rfl) (One.val rfl) (One.val rfl) (One.val rfl) o11 (by rw [a1]; omega) (by rw [a1]; have := hfit; omega) (by rw [a1]; omega) ((own_good hc12 hS (by decide)).symm.trans hE)
        · skip
          refine own_st (V := s₁.setTop (mkF m 57 #[.val (.ref ch), .val (.int xf), .val (.int xt), .val (.int (-1 : Int32)), .val (.int iv), .val (.int ((ff iv.toInt.toNat) &&& (255 : Int32))), .val (.int (0 : Int32)), .val (.int (128 : Int32)), .val (.int (191 : Int32)), s9, s10, s11] [(.int (194 : Int32)), (.int ((ff iv.toInt.toNat) &&& (255 : Int32)))])) (fun tgt k => ?_) ?_
          · show Steps p.tables e below (s₁.setTop (mkF m 43 #[.val (.ref ch), .val (.int xf), .val (.int xt), .val (.int (-1 : Int32)), .val (.int iv), .val (.int ((ff iv.toInt.toNat) &&& (255 : Int32))), .val (.int (0 : Int32)), .val (.int (128 : Int32)), .val (.int (191 : Int32)), s9, s10, s11] [(.int (128 : Int32)), (.int ((ff iv.toInt.toNat) &&& (255 : Int32)))])) tgt
            refine XS.icmpYes X0.here hx rfl (pc0 := 43) (pc' := 52) rfl (hb hby d1_43) rfl (flt hc43).2.1 (by decide) (by decide) ?_
            show Steps p.tables e below (s₁.setTop (mkF m 52 #[.val (.ref ch), .val (.int xf), .val (.int xt), .val (.int (-1 : Int32)), .val (.int iv), .val (.int ((ff iv.toInt.toNat) &&& (255 : Int32))), .val (.int (0 : Int32)), .val (.int (128 : Int32)), .val (.int (191 : Int32)), s9, s10, s11] [])) tgt
            refine XS.iload X0.here hx rfl (hb hby d1_52) rfl ?_
            show Steps p.tables e below (s₁.setTop (mkF m 54 #[.val (.ref ch), .val (.int xf), .val (.int xt), .val (.int (-1 : Int32)), .val (.int iv), .val (.int ((ff iv.toInt.toNat) &&& (255 : Int32))), .val (.int (0 : Int32)), .val (.int (128 : Int32)), .val (.int (191 : Int32)), s9, s10, s11] [(.int ((ff iv.toInt.toNat) &&& (255 : Int32)))])) tgt
            refine XS.sipush X0.here hx rfl (hb hby d1_54) ?_
            exact k
          by_cases hc57 : ((ff iv.toInt.toNat) &&& (255 : Int32)) < (194 : Int32)
          · skip
            refine own_st (V := s₁.setTop (mkF m 5 #[.val (.ref ch), .val (.int xf), .val (.int xt), .val (.int iv), .val (.int iv), .val (.int ((ff iv.toInt.toNat) &&& (255 : Int32))), .val (.int (0 : Int32)), .val (.int (128 : Int32)), .val (.int (191 : Int32)), .val (.int (0 : Int32)), .val (.int (1 : Int32)), s11] [])) (fun tgt k => ?_) ?_
            · show Steps p.tables e below (s₁.setTop (mkF m 57 #[.val (.ref ch), .val (.int xf), .val (.int xt), .val (.int (-1 : Int32)), .val (.int iv), .val (.int ((ff iv.toInt.toNat) &&& (255 : Int32))), .val (.int (0 : Int32)), .val (.int (128 : Int32)), .val (.int (191 : Int32)), s9, s10, s11] [(.int (194 : Int32)), (.int ((ff iv.toInt.toNat) &&& (255 : Int32)))])) tgt
              refine XS.icmpYes X0.here hx rfl (pc0 := 57) (pc' := 74) rfl (hb hby d1_57) rfl (tlt hc57).1 (by decide) (by decide) ?_
              show Steps p.tables e below (s₁.setTop (mkF m 74 #[.val (.ref ch), .val (.int xf), .val (.int xt), .val (.int (-1 : Int32)), .val (.int iv), .val (.int ((ff iv.toInt.toNat) &&& (255 : Int32))), .val (.int (0 : Int32)), .val (.int (128 : Int32)), .val (.int (191 : Int32)), s9, s10, s11] [])) tgt
              refine XS.iload X0.here hx rfl (hb hby d1_74) rfl ?_
              show Steps p.tables e below (s₁.setTop (mkF m 76 #[.val (.ref ch), .val (.int xf), .val (.int xt), .val (.int (-1 : Int32)), .val (.int iv), .val (.int ((ff iv.toInt.toNat) &&& (255 : Int32))), .val (.int (0 : Int32)), .val (.int (128 : Int32)), .val (.int (191 : Int32)), s9, s10, s11] [(.int ((ff iv.toInt.toNat) &&& (255 : Int32)))])) tgt
              refine XS.sipush X0.here hx rfl (hb hby d1_76) ?_
              show Steps p.tables e below (s₁.setTop (mkF m 79 #[.val (.ref ch), .val (.int xf), .val (.int xt), .val (.int (-1 : Int32)), .val (.int iv), .val (.int ((ff iv.toInt.toNat) &&& (255 : Int32))), .val (.int (0 : Int32)), .val (.int (128 : Int32)), .val (.int (191 : Int32)), s9, s10, s11] [(.int (224 : Int32)), (.int ((ff iv.toInt.toNat) &&& (255 : Int32)))])) tgt
              refine XS.icmpYes X0.here hx rfl (pc0 := 79) (pc' := 132) rfl (hb hby d1_79) rfl (tlt (by have q := hc57; rw [own_ilt] at q ⊢; rw [show (194 : Int32).toInt = 194 from rfl] at q; rw [show (224 : Int32).toInt = 224 from rfl]; omega)).1 (by decide) (by decide) ?_
              show Steps p.tables e below (s₁.setTop (mkF m 132 #[.val (.ref ch), .val (.int xf), .val (.int xt), .val (.int (-1 : Int32)), .val (.int iv), .val (.int ((ff iv.toInt.toNat) &&& (255 : Int32))), .val (.int (0 : Int32)), .val (.int (128 : Int32)), .val (.int (191 : Int32)), s9, s10, s11] [])) tgt
              refine XS.iload X0.here hx rfl (hb hby d1_132) rfl ?_
              show Steps p.tables e below (s₁.setTop (mkF m 134 #[.val (.ref ch), .val (.int xf), .val (.int xt), .val (.int (-1 : Int32)), .val (.int iv), .val (.int ((ff iv.toInt.toNat) &&& (255 : Int32))), .val (.int (0 : Int32)), .val (.int (128 : Int32)), .val (.int (191 : Int32)), s9, s10, s11] [(.int ((ff iv.toInt.toNat) &&& (255 : Int32)))])) tgt
              refine XS.sipush X0.here hx rfl (hb hby d1_134) ?_
              show Steps p.tables e below (s₁.setTop (mkF m 137 #[.val (.ref ch), .val (.int xf), .val (.int xt), .val (.int (-1 : Int32)), .val (.int iv), .val (.int ((ff iv.toInt.toNat) &&& (255 : Int32))), .val (.int (0 : Int32)), .val (.int (128 : Int32)), .val (.int (191 : Int32)), s9, s10, s11] [(.int (240 : Int32)), (.int ((ff iv.toInt.toNat) &&& (255 : Int32)))])) tgt
              refine XS.icmpYes X0.here hx rfl (pc0 := 137) (pc' := 187) rfl (hb hby d1_137) rfl (tlt (by have q := hc57; rw [own_ilt] at q ⊢; rw [show (194 : Int32).toInt = 194 from rfl] at q; rw [show (240 : Int32).toInt = 240 from rfl]; omega)).1 (by decide) (by decide) ?_
              show Steps p.tables e below (s₁.setTop (mkF m 187 #[.val (.ref ch), .val (.int xf), .val (.int xt), .val (.int (-1 : Int32)), .val (.int iv), .val (.int ((ff iv.toInt.toNat) &&& (255 : Int32))), .val (.int (0 : Int32)), .val (.int (128 : Int32)), .val (.int (191 : Int32)), s9, s10, s11] [])) tgt
              refine XS.iload X0.here hx rfl (hb hby d1_187) rfl ?_
              show Steps p.tables e below (s₁.setTop (mkF m 189 #[.val (.ref ch), .val (.int xf), .val (.int xt), .val (.int (-1 : Int32)), .val (.int iv), .val (.int ((ff iv.toInt.toNat) &&& (255 : Int32))), .val (.int (0 : Int32)), .val (.int (128 : Int32)), .val (.int (191 : Int32)), s9, s10, s11] [(.int (0 : Int32))])) tgt
              refine XS.ifYes X0.here hx rfl (pc0 := 189) (pc' := 205) rfl (hb hby d1_189) rfl ((if0 _ _).trans (flt (by decide : ¬ ((0 : Int32) < (0 : Int32)))).2.2.2) (by decide) (by decide) ?_
              show Steps p.tables e below (s₁.setTop (mkF m 205 #[.val (.ref ch), .val (.int xf), .val (.int xt), .val (.int (-1 : Int32)), .val (.int iv), .val (.int ((ff iv.toInt.toNat) &&& (255 : Int32))), .val (.int (0 : Int32)), .val (.int (128 : Int32)), .val (.int (191 : Int32)), s9, s10, s11] [])) tgt
              refine XS.iconst X0.here hx rfl (hb hby d1_205) ?_
              show Steps p.tables e below (s₁.setTop (mkF m 206 #[.val (.ref ch), .val (.int xf), .val (.int xt), .val (.int (-1 : Int32)), .val (.int iv), .val (.int ((ff iv.toInt.toNat) &&& (255 : Int32))), .val (.int (0 : Int32)), .val (.int (128 : Int32)), .val (.int (191 : Int32)), s9, s10, s11] [(.int (0 : Int32))])) tgt
              refine XS.istoreS X0.here hx rfl (hb hby d1_206) rfl rfl o9 ?_
              show Steps p.tables e below (s₁.setTop (mkF m 208 #[.val (.ref ch), .val (.int xf), .val (.int xt), .val (.int (-1 : Int32)), .val (.int iv), .val (.int ((ff iv.toInt.toNat) &&& (255 : Int32))), .val (.int (0 : Int32)), .val (.int (128 : Int32)), .val (.int (191 : Int32)), .val (.int (0 : Int32)), s10, s11] [])) tgt
              refine XS.iconst X0.here hx rfl (hb hby d1_208) ?_
              show Steps p.tables e below (s₁.setTop (mkF m 209 #[.val (.ref ch), .val (.int xf), .val (.int xt), .val (.int (-1 : Int32)), .val (.int iv), .val (.int ((ff iv.toInt.toNat) &&& (255 : Int32))), .val (.int (0 : Int32)), .val (.int (128 : Int32)), .val (.int (191 : Int32)), .val (.int (0 : Int32)), s10, s11] [(.int (1 : Int32))])) tgt
              refine XS.istoreS X0.here hx rfl (hb hby d1_209) rfl rfl o10 ?_
              show Steps p.tables e below (s₁.setTop (mkF m 211 #[.val (.ref ch), .val (.int xf), .val (.int xt), .val (.int (-1 : Int32)), .val (.int iv), .val (.int ((ff iv.toInt.toNat) &&& (255 : Int32))), .val (.int (0 : Int32)), .val (.int (128 : Int32)), .val (.int (191 : Int32)), .val (.int (0 : Int32)), .val (.int (1 : Int32)), s11] [])) tgt
              refine XS.iload X0.here hx rfl (hb hby d1_211) rfl ?_
              show Steps p.tables e below (s₁.setTop (mkF m 213 #[.val (.ref ch), .val (.int xf), .val (.int xt), .val (.int (-1 : Int32)), .val (.int iv), .val (.int ((ff iv.toInt.toNat) &&& (255 : Int32))), .val (.int (0 : Int32)), .val (.int (128 : Int32)), .val (.int (191 : Int32)), .val (.int (0 : Int32)), .val (.int (1 : Int32)), s11] [(.int (0 : Int32))])) tgt
              refine XS.ifYes X0.here hx rfl (pc0 := 213) (pc' := 293) rfl (hb hby d1_213) rfl ((if0 _ _).trans (teq (by decide : (0 : Int32) = (0 : Int32))).1) (by decide) (by decide) ?_
              show Steps p.tables e below (s₁.setTop (mkF m 293 #[.val (.ref ch), .val (.int xf), .val (.int xt), .val (.int (-1 : Int32)), .val (.int iv), .val (.int ((ff iv.toInt.toNat) &&& (255 : Int32))), .val (.int (0 : Int32)), .val (.int (128 : Int32)), .val (.int (191 : Int32)), .val (.int (0 : Int32)), .val (.int (1 : Int32)), s11] [])) tgt
              refine XS.iload X0.here hx rfl (hb hby d1_293) rfl ?_
              show Steps p.tables e below (s₁.setTop (mkF m 295 #[.val (.ref ch), .val (.int xf), .val (.int xt), .val (.int (-1 : Int32)), .val (.int iv), .val (.int ((ff iv.toInt.toNat) &&& (255 : Int32))), .val (.int (0 : Int32)), .val (.int (128 : Int32)), .val (.int (191 : Int32)), .val (.int (0 : Int32)), .val (.int (1 : Int32)), s11] [(.int (0 : Int32))])) tgt
              refine XS.ifYes X0.here hx rfl (pc0 := 295) (pc' := 308) rfl (hb hby d1_295) rfl ((if0 _ _).trans (teq (by decide : (0 : Int32) = (0 : Int32))).1) (by decide) (by decide) ?_
              show Steps p.tables e below (s₁.setTop (mkF m 308 #[.val (.ref ch), .val (.int xf), .val (.int xt), .val (.int (-1 : Int32)), .val (.int iv), .val (.int ((ff iv.toInt.toNat) &&& (255 : Int32))), .val (.int (0 : Int32)), .val (.int (128 : Int32)), .val (.int (191 : Int32)), .val (.int (0 : Int32)), .val (.int (1 : Int32)), s11] [])) tgt
              refine XS.iload X0.here hx rfl (hb hby d1_308) rfl ?_
              show Steps p.tables e below (s₁.setTop (mkF m 310 #[.val (.ref ch), .val (.int xf), .val (.int xt), .val (.int (-1 : Int32)), .val (.int iv), .val (.int ((ff iv.toInt.toNat) &&& (255 : Int32))), .val (.int (0 : Int32)), .val (.int (128 : Int32)), .val (.int (191 : Int32)), .val (.int (0 : Int32)), .val (.int (1 : Int32)), s11] [(.int iv)])) tgt
              refine XS.istoreN X0.here hx rfl (hb hby d1_310) rfl (l' := #[.val (.ref ch), .val (.int xf), .val (.int xt), .val (.int iv), .val (.int iv), .val (.int ((ff iv.toInt.toNat) &&& (255 : Int32))), .val (.int (0 : Int32)), .val (.int (128 : Int32)), .val (.int (191 : Int32)), .val (.int (0 : Int32)), .val (.int (1 : Int32)), s11]) rfl ?_
              show Steps p.tables e below (s₁.setTop (mkF m 311 #[.val (.ref ch), .val (.int xf), .val (.int xt), .val (.int iv), .val (.int iv), .val (.int ((ff iv.toInt.toNat) &&& (255 : Int32))), .val (.int (0 : Int32)), .val (.int (128 : Int32)), .val (.int (191 : Int32)), .val (.int (0 : Int32)), .val (.int (1 : Int32)), s11] [])) tgt
              refine XS.goto X0.here hx rfl (pc0 := 311) (pc' := 5) rfl (hb hby d1_311) (by decide) (by decide) ?_
              exact k
            refine own_st (V := s₁.setTop (mkF m 315 #[.val (.ref ch), .val (.int xf), .val (.int xt), .val (.int iv), .val (.int iv), .val (.int ((ff iv.toInt.toNat) &&& (255 : Int32))), .val (.int (0 : Int32)), .val (.int (128 : Int32)), .val (.int (191 : Int32)), .val (.int (0 : Int32)), .val (.int (1 : Int32)), s11] [(.int iv)])) (fun tgt k => ?_) ?_
            · show Steps p.tables e below (s₁.setTop (mkF m 5 #[.val (.ref ch), .val (.int xf), .val (.int xt), .val (.int iv), .val (.int iv), .val (.int ((ff iv.toInt.toNat) &&& (255 : Int32))), .val (.int (0 : Int32)), .val (.int (128 : Int32)), .val (.int (191 : Int32)), .val (.int (0 : Int32)), .val (.int (1 : Int32)), s11] [])) tgt
              refine XS.iloadN X0.here hx rfl (hb hby d1_5) rfl ?_
              show Steps p.tables e below (s₁.setTop (mkF m 6 #[.val (.ref ch), .val (.int xf), .val (.int xt), .val (.int iv), .val (.int iv), .val (.int ((ff iv.toInt.toNat) &&& (255 : Int32))), .val (.int (0 : Int32)), .val (.int (128 : Int32)), .val (.int (191 : Int32)), .val (.int (0 : Int32)), .val (.int (1 : Int32)), s11] [(.int iv)])) tgt
              refine XS.ifYes X0.here hx rfl (pc0 := 6) (pc' := 314) rfl (hb hby d1_6) rfl ((if0 _ _).trans (flt (by rw [own_ilt, show (0 : Int32).toInt = 0 from rfl]; omega)).2.1) (by decide) (by decide) ?_
              show Steps p.tables e below (s₁.setTop (mkF m 314 #[.val (.ref ch), .val (.int xf), .val (.int xt), .val (.int iv), .val (.int iv), .val (.int ((ff iv.toInt.toNat) &&& (255 : Int32))), .val (.int (0 : Int32)), .val (.int (128 : Int32)), .val (.int (191 : Int32)), .val (.int (0 : Int32)), .val (.int (1 : Int32)), s11] [])) tgt
              refine XS.iloadN X0.here hx rfl (hb hby d1_314) rfl ?_
              exact k
            refine own_retI X0 hx hlk Bd.returns (hb hby d1_315) ?_ (by decide) (by decide)
            show Q1 Z ch xf xt ff fu h0 n0 (some (.int iv)) s₁.heap _
            rw [e0]
            refine ⟨?_, N0, rfl⟩
            exact congrArg (fun q => some (Value.int q)) (by rw [← hE, own_bad hc12 (by unfold own_S own_s4; rw [if_neg hc43, if_pos hc57])])
          · skip
            refine own_st (V := s₁.setTop (mkF m 65 #[.val (.ref ch), .val (.int xf), .val (.int xt), .val (.int (-1 : Int32)), .val (.int iv), .val (.int ((ff iv.toInt.toNat) &&& (255 : Int32))), .val (.int (0 : Int32)), .val (.int (128 : Int32)), .val (.int (191 : Int32)), s9, s10, s11] [(.int (223 : Int32)), (.int ((ff iv.toInt.toNat) &&& (255 : Int32)))])) (fun tgt k => ?_) ?_
            · show Steps p.tables e below (s₁.setTop (mkF m 57 #[.val (.ref ch), .val (.int xf), .val (.int xt), .val (.int (-1 : Int32)), .val (.int iv), .val (.int ((ff iv.toInt.toNat) &&& (255 : Int32))), .val (.int (0 : Int32)), .val (.int (128 : Int32)), .val (.int (191 : Int32)), s9, s10, s11] [(.int (194 : Int32)), (.int ((ff iv.toInt.toNat) &&& (255 : Int32)))])) tgt
              refine XS.icmpNo X0.here hx rfl (hb hby d1_57) rfl (flt hc57).1 ?_
              show Steps p.tables e below (s₁.setTop (mkF m 60 #[.val (.ref ch), .val (.int xf), .val (.int xt), .val (.int (-1 : Int32)), .val (.int iv), .val (.int ((ff iv.toInt.toNat) &&& (255 : Int32))), .val (.int (0 : Int32)), .val (.int (128 : Int32)), .val (.int (191 : Int32)), s9, s10, s11] [])) tgt
              refine XS.iload X0.here hx rfl (hb hby d1_60) rfl ?_
              show Steps p.tables e below (s₁.setTop (mkF m 62 #[.val (.ref ch), .val (.int xf), .val (.int xt), .val (.int (-1 : Int32)), .val (.int iv), .val (.int ((ff iv.toInt.toNat) &&& (255 : Int32))), .val (.int (0 : Int32)), .val (.int (128 : Int32)), .val (.int (191 : Int32)), s9, s10, s11] [(.int ((ff iv.toInt.toNat) &&& (255 : Int32)))])) tgt
              refine XS.sipush X0.here hx rfl (hb hby d1_62) ?_
              exact k
            by_cases hc65 : (223 : Int32) < ((ff iv.toInt.toNat) &&& (255 : Int32))
            · skip
              refine own_st (V := s₁.setTop (mkF m 87 #[.val (.ref ch), .val (.int xf), .val (.int xt), .val (.int (-1 : Int32)), .val (.int iv), .val (.int ((ff iv.toInt.toNat) &&& (255 : Int32))), .val (.int (0 : Int32)), .val (.int (128 : Int32)), .val (.int (191 : Int32)), s9, s10, s11] [(.int (239 : Int32)), (.int ((ff iv.toInt.toNat) &&& (255 : Int32)))])) (fun tgt k => ?_) ?_
              · show Steps p.tables e below (s₁.setTop (mkF m 65 #[.val (.ref ch), .val (.int xf), .val (.int xt), .val (.int (-1 : Int32)), .val (.int iv), .val (.int ((ff iv.toInt.toNat) &&& (255 : Int32))), .val (.int (0 : Int32)), .val (.int (128 : Int32)), .val (.int (191 : Int32)), s9, s10, s11] [(.int (223 : Int32)), (.int ((ff iv.toInt.toNat) &&& (255 : Int32)))])) tgt
                refine XS.icmpYes X0.here hx rfl (pc0 := 65) (pc' := 74) rfl (hb hby d1_65) rfl (tlt hc65).2.2.1 (by decide) (by decide) ?_
                show Steps p.tables e below (s₁.setTop (mkF m 74 #[.val (.ref ch), .val (.int xf), .val (.int xt), .val (.int (-1 : Int32)), .val (.int iv), .val (.int ((ff iv.toInt.toNat) &&& (255 : Int32))), .val (.int (0 : Int32)), .val (.int (128 : Int32)), .val (.int (191 : Int32)), s9, s10, s11] [])) tgt
                refine XS.iload X0.here hx rfl (hb hby d1_74) rfl ?_
                show Steps p.tables e below (s₁.setTop (mkF m 76 #[.val (.ref ch), .val (.int xf), .val (.int xt), .val (.int (-1 : Int32)), .val (.int iv), .val (.int ((ff iv.toInt.toNat) &&& (255 : Int32))), .val (.int (0 : Int32)), .val (.int (128 : Int32)), .val (.int (191 : Int32)), s9, s10, s11] [(.int ((ff iv.toInt.toNat) &&& (255 : Int32)))])) tgt
                refine XS.sipush X0.here hx rfl (hb hby d1_76) ?_
                show Steps p.tables e below (s₁.setTop (mkF m 79 #[.val (.ref ch), .val (.int xf), .val (.int xt), .val (.int (-1 : Int32)), .val (.int iv), .val (.int ((ff iv.toInt.toNat) &&& (255 : Int32))), .val (.int (0 : Int32)), .val (.int (128 : Int32)), .val (.int (191 : Int32)), s9, s10, s11] [(.int (224 : Int32)), (.int ((ff iv.toInt.toNat) &&& (255 : Int32)))])) tgt
                refine XS.icmpNo X0.here hx rfl (hb hby d1_79) rfl (flt (by have q := hc65; rw [own_ilt] at q ⊢; rw [show (223 : Int32).toInt = 223 from rfl] at q; rw [show (224 : Int32).toInt = 224 from rfl]; omega)).1 ?_
                show Steps p.tables e below (s₁.setTop (mkF m 82 #[.val (.ref ch), .val (.int xf), .val (.int xt), .val (.int (-1 : Int32)), .val (.int iv), .val (.int ((ff iv.toInt.toNat) &&& (255 : Int32))), .val (.int (0 : Int32)), .val (.int (128 : Int32)), .val (.int (191 : Int32)), s9, s10, s11] [])) tgt
                refine XS.iload X0.here hx rfl (hb hby d1_82) rfl ?_
                show Steps p.tables e below (s₁.setTop (mkF m 84 #[.val (.ref ch), .val (.int xf), .val (.int xt), .val (.int (-1 : Int32)), .val (.int iv), .val (.int ((ff iv.toInt.toNat) &&& (255 : Int32))), .val (.int (0 : Int32)), .val (.int (128 : Int32)), .val (.int (191 : Int32)), s9, s10, s11] [(.int ((ff iv.toInt.toNat) &&& (255 : Int32)))])) tgt
                refine XS.sipush X0.here hx rfl (hb hby d1_84) ?_
                exact k
              by_cases hc87 : (239 : Int32) < ((ff iv.toInt.toNat) &&& (255 : Int32))
              · skip
                refine own_st (V := s₁.setTop (mkF m 145 #[.val (.ref ch), .val (.int xf), .val (.int xt), .val (.int (-1 : Int32)), .val (.int iv), .val (.int ((ff iv.toInt.toNat) &&& (255 : Int32))), .val (.int (0 : Int32)), .val (.int (128 : Int32)), .val (.int (191 : Int32)), s9, s10, s11] [(.int (244 : Int32)), (.int ((ff iv.toInt.toNat) &&& (255 : Int32)))])) (fun tgt k => ?_) ?_
                · show Steps p.tables e below (s₁.setTop (mkF m 87 #[.val (.ref ch), .val (.int xf), .val (.int xt), .val (.int (-1 : Int32)), .val (.int iv), .val (.int ((ff iv.toInt.toNat) &&& (255 : Int32))), .val (.int (0 : Int32)), .val (.int (128 : Int32)), .val (.int (191 : Int32)), s9, s10, s11] [(.int (239 : Int32)), (.int ((ff iv.toInt.toNat) &&& (255 : Int32)))])) tgt
                  refine XS.icmpYes X0.here hx rfl (pc0 := 87) (pc' := 132) rfl (hb hby d1_87) rfl (tlt hc87).2.2.1 (by decide) (by decide) ?_
                  show Steps p.tables e below (s₁.setTop (mkF m 132 #[.val (.ref ch), .val (.int xf), .val (.int xt), .val (.int (-1 : Int32)), .val (.int iv), .val (.int ((ff iv.toInt.toNat) &&& (255 : Int32))), .val (.int (0 : Int32)), .val (.int (128 : Int32)), .val (.int (191 : Int32)), s9, s10, s11] [])) tgt
                  refine XS.iload X0.here hx rfl (hb hby d1_132) rfl ?_
                  show Steps p.tables e below (s₁.setTop (mkF m 134 #[.val (.ref ch), .val (.int xf), .val (.int xt), .val (.int (-1 : Int32)), .val (.int iv), .val (.int ((ff iv.toInt.toNat) &&& (255 : Int32))), .val (.int (0 : Int32)), .val (.int (128 : Int32)), .val (.int (191 : Int32)), s9, s10, s11] [(.int ((ff iv.toInt.toNat) &&& (255 : Int32)))])) tgt
                  refine XS.sipush X0.here hx rfl (hb hby d1_134) ?_
                  show Steps p.tables e below (s₁.setTop (mkF m 137 #[.val (.ref ch), .val (.int xf), .val (.int xt), .val (.int (-1 : Int32)), .val (.int iv), .val (.int ((ff iv.toInt.toNat) &&& (255 : Int32))), .val (.int (0 : Int32)), .val (.int (128 : Int32)), .val (.int (191 : Int32)), s9, s10, s11] [(.int (240 : Int32)), (.int ((ff iv.toInt.toNat) &&& (255 : Int32)))])) tgt
                  refine XS.icmpNo X0.here hx rfl (hb hby d1_137) rfl (flt (by have q := hc87; rw [own_ilt] at q ⊢; rw [show (239 : Int32).toInt = 239 from rfl] at q; rw [show (240 : Int32).toInt = 240 from rfl]; omega)).1 ?_
                  show Steps p.tables e below (s₁.setTop (mkF m 140 #[.val (.ref ch), .val (.int xf), .val (.int xt), .val (.int (-1 : Int32)), .val (.int iv), .val (.int ((ff iv.toInt.toNat) &&& (255 : Int32))), .val (.int (0 : Int32)), .val (.int (128 : Int32)), .val (.int (191 : Int32)), s9, s10, s11] [])) tgt
                  refine XS.iload X0.here hx rfl (hb hby d1_140) rfl ?_
                  show Steps p.tables e below (s₁.setTop (mkF m 142 #[.val (.ref ch), .val (.int xf), .val (.int xt), .val (.int (-1 : Int32)), .val (.int iv), .val (.int ((ff iv.toInt.toNat) &&& (255 : Int32))), .val (.int (0 : Int32)), .val (.int (128 : Int32)), .val (.int (191 : Int32)), s9, s10, s11] [(.int ((ff iv.toInt.toNat) &&& (255 : Int32)))])) tgt
                  refine XS.sipush X0.here hx rfl (hb hby d1_142) ?_
                  exact k
                by_cases hc145 : (244 : Int32) < ((ff iv.toInt.toNat) &&& (255 : Int32))
                · skip
                  refine own_st (V := s₁.setTop (mkF m 5 #[.val (.ref ch), .val (.int xf), .val (.int xt), .val (.int iv), .val (.int iv), .val (.int ((ff iv.toInt.toNat) &&& (255 : Int32))), .val (.int (0 : Int32)), .val (.int (128 : Int32)), .val (.int (191 : Int32)), .val (.int (0 : Int32)), .val (.int (1 : Int32)), s11] [])) (fun tgt k => ?_) ?_
                  · show Steps p.tables e below (s₁.setTop (mkF m 145 #[.val (.ref ch), .val (.int xf), .val (.int xt), .val (.int (-1 : Int32)), .val (.int iv), .val (.int ((ff iv.toInt.toNat) &&& (255 : Int32))), .val (.int (0 : Int32)), .val (.int (128 : Int32)), .val (.int (191 : Int32)), s9, s10, s11] [(.int (244 : Int32)), (.int ((ff iv.toInt.toNat) &&& (255 : Int32)))])) tgt
                    refine XS.icmpYes X0.here hx rfl (pc0 := 145) (pc' := 187) rfl (hb hby d1_145) rfl (tlt hc145).2.2.1 (by decide) (by decide) ?_
                    show Steps p.tables e below (s₁.setTop (mkF m 187 #[.val (.ref ch), .val (.int xf), .val (.int xt), .val (.int (-1 : Int32)), .val (.int iv), .val (.int ((ff iv.toInt.toNat) &&& (255 : Int32))), .val (.int (0 : Int32)), .val (.int (128 : Int32)), .val (.int (191 : Int32)), s9, s10, s11] [])) tgt
                    refine XS.iload X0.here hx rfl (hb hby d1_187) rfl ?_
                    show Steps p.tables e below (s₁.setTop (mkF m 189 #[.val (.ref ch), .val (.int xf), .val (.int xt), .val (.int (-1 : Int32)), .val (.int iv), .val (.int ((ff iv.toInt.toNat) &&& (255 : Int32))), .val (.int (0 : Int32)), .val (.int (128 : Int32)), .val (.int (191 : Int32)), s9, s10, s11] [(.int (0 : Int32))])) tgt
                    refine XS.ifYes X0.here hx rfl (pc0 := 189) (pc' := 205) rfl (hb hby d1_189) rfl ((if0 _ _).trans (flt (by decide : ¬ ((0 : Int32) < (0 : Int32)))).2.2.2) (by decide) (by decide) ?_
                    show Steps p.tables e below (s₁.setTop (mkF m 205 #[.val (.ref ch), .val (.int xf), .val (.int xt), .val (.int (-1 : Int32)), .val (.int iv), .val (.int ((ff iv.toInt.toNat) &&& (255 : Int32))), .val (.int (0 : Int32)), .val (.int (128 : Int32)), .val (.int (191 : Int32)), s9, s10, s11] [])) tgt
                    refine XS.iconst X0.here hx rfl (hb hby d1_205) ?_
                    show Steps p.tables e below (s₁.setTop (mkF m 206 #[.val (.ref ch), .val (.int xf), .val (.int xt), .val (.int (-1 : Int32)), .val (.int iv), .val (.int ((ff iv.toInt.toNat) &&& (255 : Int32))), .val (.int (0 : Int32)), .val (.int (128 : Int32)), .val (.int (191 : Int32)), s9, s10, s11] [(.int (0 : Int32))])) tgt
                    refine XS.istoreS X0.here hx rfl (hb hby d1_206) rfl rfl o9 ?_
                    show Steps p.tables e below (s₁.setTop (mkF m 208 #[.val (.ref ch), .val (.int xf), .val (.int xt), .val (.int (-1 : Int32)), .val (.int iv), .val (.int ((ff iv.toInt.toNat) &&& (255 : Int32))), .val (.int (0 : Int32)), .val (.int (128 : Int32)), .val (.int (191 : Int32)), .val (.int (0 : Int32)), s10, s11] [])) tgt
                    refine XS.iconst X0.here hx rfl (hb hby d1_208) ?_
                    show Steps p.tables e below (s₁.setTop (mkF m 209 #[.val (.ref ch), .val (.int xf), .val (.int xt), .val (.int (-1 : Int32)), .val (.int iv), .val (.int ((ff iv.toInt.toNat) &&& (255 : Int32))), .val (.int (0 : Int32)), .val (.int (128 : Int32)), .val (.int (191 : Int32)), .val (.int (0 : Int32)), s10, s11] [(.int (1 : Int32))])) tgt
                    refine XS.istoreS X0.here hx rfl (hb hby d1_209) rfl rfl o10 ?_
                    show Steps p.tables e below (s₁.setTop (mkF m 211 #[.val (.ref ch), .val (.int xf), .val (.int xt), .val (.int (-1 : Int32)), .val (.int iv), .val (.int ((ff iv.toInt.toNat) &&& (255 : Int32))), .val (.int (0 : Int32)), .val (.int (128 : Int32)), .val (.int (191 : Int32)), .val (.int (0 : Int32)), .val (.int (1 : Int32)), s11] [])) tgt
                    refine XS.iload X0.here hx rfl (hb hby d1_211) rfl ?_
                    show Steps p.tables e below (s₁.setTop (mkF m 213 #[.val (.ref ch), .val (.int xf), .val (.int xt), .val (.int (-1 : Int32)), .val (.int iv), .val (.int ((ff iv.toInt.toNat) &&& (255 : Int32))), .val (.int (0 : Int32)), .val (.int (128 : Int32)), .val (.int (191 : Int32)), .val (.int (0 : Int32)), .val (.int (1 : Int32)), s11] [(.int (0 : Int32))])) tgt
                    refine XS.ifYes X0.here hx rfl (pc0 := 213) (pc' := 293) rfl (hb hby d1_213) rfl ((if0 _ _).trans (teq (by decide : (0 : Int32) = (0 : Int32))).1) (by decide) (by decide) ?_
                    show Steps p.tables e below (s₁.setTop (mkF m 293 #[.val (.ref ch), .val (.int xf), .val (.int xt), .val (.int (-1 : Int32)), .val (.int iv), .val (.int ((ff iv.toInt.toNat) &&& (255 : Int32))), .val (.int (0 : Int32)), .val (.int (128 : Int32)), .val (.int (191 : Int32)), .val (.int (0 : Int32)), .val (.int (1 : Int32)), s11] [])) tgt
                    refine XS.iload X0.here hx rfl (hb hby d1_293) rfl ?_
                    show Steps p.tables e below (s₁.setTop (mkF m 295 #[.val (.ref ch), .val (.int xf), .val (.int xt), .val (.int (-1 : Int32)), .val (.int iv), .val (.int ((ff iv.toInt.toNat) &&& (255 : Int32))), .val (.int (0 : Int32)), .val (.int (128 : Int32)), .val (.int (191 : Int32)), .val (.int (0 : Int32)), .val (.int (1 : Int32)), s11] [(.int (0 : Int32))])) tgt
                    refine XS.ifYes X0.here hx rfl (pc0 := 295) (pc' := 308) rfl (hb hby d1_295) rfl ((if0 _ _).trans (teq (by decide : (0 : Int32) = (0 : Int32))).1) (by decide) (by decide) ?_
                    show Steps p.tables e below (s₁.setTop (mkF m 308 #[.val (.ref ch), .val (.int xf), .val (.int xt), .val (.int (-1 : Int32)), .val (.int iv), .val (.int ((ff iv.toInt.toNat) &&& (255 : Int32))), .val (.int (0 : Int32)), .val (.int (128 : Int32)), .val (.int (191 : Int32)), .val (.int (0 : Int32)), .val (.int (1 : Int32)), s11] [])) tgt
                    refine XS.iload X0.here hx rfl (hb hby d1_308) rfl ?_
                    show Steps p.tables e below (s₁.setTop (mkF m 310 #[.val (.ref ch), .val (.int xf), .val (.int xt), .val (.int (-1 : Int32)), .val (.int iv), .val (.int ((ff iv.toInt.toNat) &&& (255 : Int32))), .val (.int (0 : Int32)), .val (.int (128 : Int32)), .val (.int (191 : Int32)), .val (.int (0 : Int32)), .val (.int (1 : Int32)), s11] [(.int iv)])) tgt
                    refine XS.istoreN X0.here hx rfl (hb hby d1_310) rfl (l' := #[.val (.ref ch), .val (.int xf), .val (.int xt), .val (.int iv), .val (.int iv), .val (.int ((ff iv.toInt.toNat) &&& (255 : Int32))), .val (.int (0 : Int32)), .val (.int (128 : Int32)), .val (.int (191 : Int32)), .val (.int (0 : Int32)), .val (.int (1 : Int32)), s11]) rfl ?_
                    show Steps p.tables e below (s₁.setTop (mkF m 311 #[.val (.ref ch), .val (.int xf), .val (.int xt), .val (.int iv), .val (.int iv), .val (.int ((ff iv.toInt.toNat) &&& (255 : Int32))), .val (.int (0 : Int32)), .val (.int (128 : Int32)), .val (.int (191 : Int32)), .val (.int (0 : Int32)), .val (.int (1 : Int32)), s11] [])) tgt
                    refine XS.goto X0.here hx rfl (pc0 := 311) (pc' := 5) rfl (hb hby d1_311) (by decide) (by decide) ?_
                    exact k
                  refine own_st (V := s₁.setTop (mkF m 315 #[.val (.ref ch), .val (.int xf), .val (.int xt), .val (.int iv), .val (.int iv), .val (.int ((ff iv.toInt.toNat) &&& (255 : Int32))), .val (.int (0 : Int32)), .val (.int (128 : Int32)), .val (.int (191 : Int32)), .val (.int (0 : Int32)), .val (.int (1 : Int32)), s11] [(.int iv)])) (fun tgt k => ?_) ?_
                  · show Steps p.tables e below (s₁.setTop (mkF m 5 #[.val (.ref ch), .val (.int xf), .val (.int xt), .val (.int iv), .val (.int iv), .val (.int ((ff iv.toInt.toNat) &&& (255 : Int32))), .val (.int (0 : Int32)), .val (.int (128 : Int32)), .val (.int (191 : Int32)), .val (.int (0 : Int32)), .val (.int (1 : Int32)), s11] [])) tgt
                    refine XS.iloadN X0.here hx rfl (hb hby d1_5) rfl ?_
                    show Steps p.tables e below (s₁.setTop (mkF m 6 #[.val (.ref ch), .val (.int xf), .val (.int xt), .val (.int iv), .val (.int iv), .val (.int ((ff iv.toInt.toNat) &&& (255 : Int32))), .val (.int (0 : Int32)), .val (.int (128 : Int32)), .val (.int (191 : Int32)), .val (.int (0 : Int32)), .val (.int (1 : Int32)), s11] [(.int iv)])) tgt
                    refine XS.ifYes X0.here hx rfl (pc0 := 6) (pc' := 314) rfl (hb hby d1_6) rfl ((if0 _ _).trans (flt (by rw [own_ilt, show (0 : Int32).toInt = 0 from rfl]; omega)).2.1) (by decide) (by decide) ?_
                    show Steps p.tables e below (s₁.setTop (mkF m 314 #[.val (.ref ch), .val (.int xf), .val (.int xt), .val (.int iv), .val (.int iv), .val (.int ((ff iv.toInt.toNat) &&& (255 : Int32))), .val (.int (0 : Int32)), .val (.int (128 : Int32)), .val (.int (191 : Int32)), .val (.int (0 : Int32)), .val (.int (1 : Int32)), s11] [])) tgt
                    refine XS.iloadN X0.here hx rfl (hb hby d1_314) rfl ?_
                    exact k
                  refine own_retI X0 hx hlk Bd.returns (hb hby d1_315) ?_ (by decide) (by decide)
                  show Q1 Z ch xf xt ff fu h0 n0 (some (.int iv)) s₁.heap _
                  rw [e0]
                  refine ⟨?_, N0, rfl⟩
                  exact congrArg (fun q => some (Value.int q)) (by rw [← hE, own_bad hc12 (by unfold own_S own_s4; rw [if_neg hc43, if_neg hc57, if_pos hc65, if_pos hc87, if_pos hc145])])
                · skip
                  refine own_st (V := s₁.setTop (mkF m 156 #[.val (.ref ch), .val (.int xf), .val (.int xt), .val (.int (-1 : Int32)), .val (.int iv), .val (.int ((ff iv.toInt.toNat) &&& (255 : Int32))), .val (.int (4 : Int32)), .val (.int (128 : Int32)), .val (.int (191 : Int32)), s9, s10, s11] [(.int (240 : Int32)), (.int ((ff iv.toInt.toNat) &&& (255 : Int32)))])) (fun tgt k => ?_) ?_
                  · show Steps p.tables e below (s₁.setTop (mkF m 145 #[.val (.ref ch), .val (.int xf), .val (.int xt), .val (.int (-1 : Int32)), .val (.int iv), .val (.int ((ff iv.toInt.toNat) &&& (255 : Int32))), .val (.int (0 : Int32)), .val (.int (128 : Int32)), .val (.int (191 : Int32)), s9, s10, s11] [(.int (244 : Int32)), (.int ((ff iv.toInt.toNat) &&& (255 : Int32)))])) tgt
                    refine XS.icmpNo X0.here hx rfl (hb hby d1_145) rfl (flt hc145).2.2.1 ?_
                    show Steps p.tables e below (s₁.setTop (mkF m 148 #[.val (.ref ch), .val (.int xf), .val (.int xt), .val (.int (-1 : Int32)), .val (.int iv), .val (.int ((ff iv.toInt.toNat) &&& (255 : Int32))), .val (.int (0 : Int32)), .val (.int (128 : Int32)), .val (.int (191 : Int32)), s9, s10, s11] [])) tgt
                    refine XS.iconst X0.here hx rfl (hb hby d1_148) ?_
                    show Steps p.tables e below (s₁.setTop (mkF m 149 #[.val (.ref ch), .val (.int xf), .val (.int xt), .val (.int (-1 : Int32)), .val (.int iv), .val (.int ((ff iv.toInt.toNat) &&& (255 : Int32))), .val (.int (0 : Int32)), .val (.int (128 : Int32)), .val (.int (191 : Int32)), s9, s10, s11] [(.int (4 : Int32))])) tgt
                    refine XS.istore X0.here hx rfl (hb hby d1_149) rfl (l' := #[.val (.ref ch), .val (.int xf), .val (.int xt), .val (.int (-1 : Int32)), .val (.int iv), .val (.int ((ff iv.toInt.toNat) &&& (255 : Int32))), .val (.int (4 : Int32)), .val (.int (128 : Int32)), .val (.int (191 : Int32)), s9, s10, s11]) rfl ?_
                    show Steps p.tables e below (s₁.setTop (mkF m 151 #[.val (.ref ch), .val (.int xf), .val (.int xt), .val (.int (-1 : Int32)), .val (.int iv), .val (.int ((ff iv.toInt.toNat) &&& (255 : Int32))), .val (.int (4 : Int32)), .val (.int (128 : Int32)), .val (.int (191 : Int32)), s9, s10, s11] [])) tgt
                    refine XS.iload X0.here hx rfl (hb hby d1_151) rfl ?_
                    show Steps p.tables e below (s₁.setTop (mkF m 153 #[.val (.ref ch), .val (.int xf), .val (.int xt), .val (.int (-1 : Int32)), .val (.int iv), .val (.int ((ff iv.toInt.toNat) &&& (255 : Int32))), .val (.int (4 : Int32)), .val (.int (128 : Int32)), .val (.int (191 : Int32)), s9, s10, s11] [(.int ((ff iv.toInt.toNat) &&& (255 : Int32)))])) tgt
                    refine XS.sipush X0.here hx rfl (hb hby d1_153) ?_
                    exact k
                  obtain ⟨lo, hlo⟩ : ∃ z : Int32, z = (if ((ff iv.toInt.toNat) &&& (255 : Int32)) = (240 : Int32) then (144 : Int32) else (128 : Int32)) := ⟨_, rfl⟩
                  refine own_st (V := s₁.setTop (mkF m 167 #[.val (.ref ch), .val (.int xf), .val (.int xt), .val (.int (-1 : Int32)), .val (.int iv), .val (.int ((ff iv.toInt.toNat) &&& (255 : Int32))), .val (.int (4 : Int32)), .val (.int (128 : Int32)), .val (.int (191 : Int32)), s9, s10, s11] [(.int lo)])) (fun tgt k => ?_) ?_
                  · skip
                    by_cases hc156_2 : ((ff iv.toInt.toNat) &&& (255 : Int32)) = (240 : Int32)
                    · skip
                      rw [if_pos hc156_2] at hlo
                      show Steps p.tables e below (s₁.setTop (mkF m 156 #[.val (.ref ch), .val (.int xf), .val (.int xt), .val (.int (-1 : Int32)), .val (.int iv), .val (.int ((ff iv.toInt.toNat) &&& (255 : Int32))), .val (.int (4 : Int32)), .val (.int (128 : Int32)), .val (.int (191 : Int32)), s9, s10, s11] [(.int (240 : Int32)), (.int ((ff iv.toInt.toNat) &&& (255 : Int32)))])) tgt
                      refine XS.icmpNo X0.here hx rfl (hb hby d1_156) rfl (teq hc156_2).2 ?_
                      show Steps p.tables e below (s₁.setTop (mkF m 159 #[.val (.ref ch), .val (.int xf), .val (.int xt), .val (.int (-1 : Int32)), .val (.int iv), .val (.int ((ff iv.toInt.toNat) &&& (255 : Int32))), .val (.int (4 : Int32)), .val (.int (128 : Int32)), .val (.int (191 : Int32)), s9, s10, s11] [])) tgt
                      refine XS.sipush X0.here hx rfl (hb hby d1_159) ?_
                      show Steps p.tables e below (s₁.setTop (mkF m 162 #[.val (.ref ch), .val (.int xf), .val (.int xt), .val (.int (-1 : Int32)), .val (.int iv), .val (.int ((ff iv.toInt.toNat) &&& (255 : Int32))), .val (.int (4 : Int32)), .val (.int (128 : Int32)), .val (.int (191 : Int32)), s9, s10, s11] [(.int (144 : Int32))])) tgt
                      refine XS.goto X0.here hx rfl (pc0 := 162) (pc' := 167) rfl (hb hby d1_162) (by decide) (by decide) ?_
                      rw [hlo] at k
                      exact k
                    · skip
                      rw [if_neg hc156_2] at hlo
                      show Steps p.tables e below (s₁.setTop (mkF m 156 #[.val (.ref ch), .val (.int xf), .val (.int xt), .val (.int (-1 : Int32)), .val (.int iv), .val (.int ((ff iv.toInt.toNat) &&& (255 : Int32))), .val (.int (4 : Int32)), .val (.int (128 : Int32)), .val (.int (191 : Int32)), s9, s10, s11] [(.int (240 : Int32)), (.int ((ff iv.toInt.toNat) &&& (255 : Int32)))])) tgt
                      refine XS.icmpYes X0.here hx rfl (pc0 := 156) (pc' := 165) rfl (hb hby d1_156) rfl (feq hc156_2).2 (by decide) (by decide) ?_
                      show Steps p.tables e below (s₁.setTop (mkF m 165 #[.val (.ref ch), .val (.int xf), .val (.int xt), .val (.int (-1 : Int32)), .val (.int iv), .val (.int ((ff iv.toInt.toNat) &&& (255 : Int32))), .val (.int (4 : Int32)), .val (.int (128 : Int32)), .val (.int (191 : Int32)), s9, s10, s11] [])) tgt
                      refine XS.iload X0.here hx rfl (hb hby d1_165) rfl ?_
                      rw [hlo] at k
                      exact k
                  refine own_st (V := s₁.setTop (mkF m 174 #[.val (.ref ch), .val (.int xf), .val (.int xt), .val (.int (-1 : Int32)), .val (.int iv), .val (.int ((ff iv.toInt.toNat) &&& (255 : Int32))), .val (.int (4 : Int32)), .val (.int lo), .val (.int (191 : Int32)), s9, s10, s11] [(.int (244 : Int32)), (.int ((ff iv.toInt.toNat) &&& (255 : Int32)))])) (fun tgt k => ?_) ?_
                  · show Steps p.tables e below (s₁.setTop (mkF m 167 #[.val (.ref ch), .val (.int xf), .val (.int xt), .val (.int (-1 : Int32)), .val (.int iv), .val (.int ((ff iv.toInt.toNat) &&& (255 : Int32))), .val (.int (4 : Int32)), .val (.int (128 : Int32)), .val (.int (191 : Int32)), s9, s10, s11] [(.int lo)])) tgt
                    refine XS.istore X0.here hx rfl (hb hby d1_167) rfl (l' := #[.val (.ref ch), .val (.int xf), .val (.int xt), .val (.int (-1 : Int32)), .val (.int iv), .val (.int ((ff iv.toInt.toNat) &&& (255 : Int32))), .val (.int (4 : Int32)), .val (.int lo), .val (.int (191 : Int32)), s9, s10, s11]) rfl ?_
                    show Steps p.tables e below (s₁.setTop (mkF m 169 #[.val (.ref ch), .val (.int xf), .val (.int xt), .val (.int (-1 : Int32)), .val (.int iv), .val (.int ((ff iv.toInt.toNat) &&& (255 : Int32))), .val (.int (4 : Int32)), .val (.int lo), .val (.int (191 : Int32)), s9, s10, s11] [])) tgt
                    refine XS.iload X0.here hx rfl (hb hby d1_169) rfl ?_
                    show Steps p.tables e below (s₁.setTop (mkF m 171 #[.val (.ref ch), .val (.int xf), .val (.int xt), .val (.int (-1 : Int32)), .val (.int iv), .val (.int ((ff iv.toInt.toNat) &&& (255 : Int32))), .val (.int (4 : Int32)), .val (.int lo), .val (.int (191 : Int32)), s9, s10, s11] [(.int ((ff iv.toInt.toNat) &&& (255 : Int32)))])) tgt
                    refine XS.sipush X0.here hx rfl (hb hby d1_171) ?_
                    exact k
                  obtain ⟨hi, hhi⟩ : ∃ z : Int32, z = (if ((ff iv.toInt.toNat) &&& (255 : Int32)) = (244 : Int32) then (143 : Int32) else (191 : Int32)) := ⟨_, rfl⟩
                  refine own_st (V := s₁.setTop (mkF m 185 #[.val (.ref ch), .val (.int xf), .val (.int xt), .val (.int (-1 : Int32)), .val (.int iv), .val (.int ((ff iv.toInt.toNat) &&& (255 : Int32))), .val (.int (4 : Int32)), .val (.int lo), .val (.int (191 : Int32)), s9, s10, s11] [(.int hi)])) (fun tgt k => ?_) ?_
                  · skip
                    by_cases hc174_2 : ((ff iv.toInt.toNat) &&& (255 : Int32)) = (244 : Int32)
                    · skip
                      rw [if_pos hc174_2] at hhi
                      show Steps p.tables e below (s₁.setTop (mkF m 174 #[.val (.ref ch), .val (.int xf), .val (.int xt), .val (.int (-1 : Int32)), .val (.int iv), .val (.int ((ff iv.toInt.toNat) &&& (255 : Int32))), .val (.int (4 : Int32)), .val (.int lo), .val (.int (191 : Int32)), s9, s10, s11] [(.int (244 : Int32)), (.int ((ff iv.toInt.toNat) &&& (255 : Int32)))])) tgt
                      refine XS.icmpNo X0.here hx rfl (hb hby d1_174) rfl (teq hc174_2).2 ?_
                      show Steps p.tables e below (s₁.setTop (mkF m 177 #[.val (.ref ch), .val (.int xf), .val (.int xt), .val (.int (-1 : Int32)), .val (.int iv), .val (.int ((ff iv.toInt.toNat) &&& (255 : Int32))), .val (.int (4 : Int32)), .val (.int lo), .val (.int (191 : Int32)), s9, s10, s11] [])) tgt
                      refine XS.sipush X0.here hx rfl (hb hby d1_177) ?_
                      show Steps p.tables e below (s₁.setTop (mkF m 180 #[.val (.ref ch), .val (.int xf), .val (.int xt), .val (.int (-1 : Int32)), .val (.int iv), .val (.int ((ff iv.toInt.toNat) &&& (255 : Int32))), .val (.int (4 : Int32)), .val (.int lo), .val (.int (191 : Int32)), s9, s10, s11] [(.int (143 : Int32))])) tgt
                      refine XS.goto X0.here hx rfl (pc0 := 180) (pc' := 185) rfl (hb hby d1_180) (by decide) (by decide) ?_
                      rw [hhi] at k
                      exact k
                    · skip
                      rw [if_neg hc174_2] at hhi
                      show Steps p.tables e below (s₁.setTop (mkF m 174 #[.val (.ref ch), .val (.int xf), .val (.int xt), .val (.int (-1 : Int32)), .val (.int iv), .val (.int ((ff iv.toInt.toNat) &&& (255 : Int32))), .val (.int (4 : Int32)), .val (.int lo), .val (.int (191 : Int32)), s9, s10, s11] [(.int (244 : Int32)), (.int ((ff iv.toInt.toNat) &&& (255 : Int32)))])) tgt
                      refine XS.icmpYes X0.here hx rfl (pc0 := 174) (pc' := 183) rfl (hb hby d1_174) rfl (feq hc174_2).2 (by decide) (by decide) ?_
                      show Steps p.tables e below (s₁.setTop (mkF m 183 #[.val (.ref ch), .val (.int xf), .val (.int xt), .val (.int (-1 : Int32)), .val (.int iv), .val (.int ((ff iv.toInt.toNat) &&& (255 : Int32))), .val (.int (4 : Int32)), .val (.int lo), .val (.int (191 : Int32)), s9, s10, s11] [])) tgt
                      refine XS.iload X0.here hx rfl (hb hby d1_183) rfl ?_
                      rw [hhi] at k
                      exact k
                  refine own_st (V := s₁.setTop (mkF m 198 #[.val (.ref ch), .val (.int xf), .val (.int xt), .val (.int (-1 : Int32)), .val (.int iv), .val (.int ((ff iv.toInt.toNat) &&& (255 : Int32))), .val (.int (4 : Int32)), .val (.int lo), .val (.int hi), s9, s10, s11] [(.int xt), (.int (iv + (4 : Int32)))])) (fun tgt k => ?_) ?_
                  · show Steps p.tables e below (s₁.setTop (mkF m 185 #[.val (.ref ch), .val (.int xf), .val (.int xt), .val (.int (-1 : Int32)), .val (.int iv), .val (.int ((ff iv.toInt.toNat) &&& (255 : Int32))), .val (.int (4 : Int32)), .val (.int lo), .val (.int (191 : Int32)), s9, s10, s11] [(.int hi)])) tgt
                    refine XS.istore X0.here hx rfl (hb hby d1_185) rfl (l' := #[.val (.ref ch), .val (.int xf), .val (.int xt), .val (.int (-1 : Int32)), .val (.int iv), .val (.int ((ff iv.toInt.toNat) &&& (255 : Int32))), .val (.int (4 : Int32)), .val (.int lo), .val (.int hi), s9, s10, s11]) rfl ?_
                    show Steps p.tables e below (s₁.setTop (mkF m 187 #[.val (.ref ch), .val (.int xf), .val (.int xt), .val (.int (-1 : Int32)), .val (.int iv), .val (.int ((ff iv.toInt.toNat) &&& (255 : Int32))), .val (.int (4 : Int32)), .val (.int lo), .val (.int hi), s9, s10, s11] [])) tgt
                    refine XS.iload X0.here hx rfl (hb hby d1_187) rfl ?_
                    show Steps p.tables e below (s₁.setTop (mkF m 189 #[.val (.ref ch), .val (.int xf), .val (.int xt), .val (.int (-1 : Int32)), .val (.int iv), .val (.int ((ff iv.toInt.toNat) &&& (255 : Int32))), .val (.int (4 : Int32)), .val (.int lo), .val (.int hi), s9, s10, s11] [(.int (4 : Int32))])) tgt
                    refine XS.ifNo X0.here hx rfl (hb hby d1_189) rfl ((if0 _ _).trans (tlt (by decide : (0 : Int32) < (4 : Int32))).2.2.2) ?_
                    show Steps p.tables e below (s₁.setTop (mkF m 192 #[.val (.ref ch), .val (.int xf), .val (.int xt), .val (.int (-1 : Int32)), .val (.int iv), .val (.int ((ff iv.toInt.toNat) &&& (255 : Int32))), .val (.int (4 : Int32)), .val (.int lo), .val (.int hi), s9, s10, s11] [])) tgt
                    refine XS.iload X0.here hx rfl (hb hby d1_192) rfl ?_
                    show Steps p.tables e below (s₁.setTop (mkF m 194 #[.val (.ref ch), .val (.int xf), .val (.int xt), .val (.int (-1 : Int32)), .val (.int iv), .val (.int ((ff iv.toInt.toNat) &&& (255 : Int32))), .val (.int (4 : Int32)), .val (.int lo), .val (.int hi), s9, s10, s11] [(.int iv)])) tgt
                    refine XS.iload X0.here hx rfl (hb hby d1_194) rfl ?_
                    show Steps p.tables e below (s₁.setTop (mkF m 196 #[.val (.ref ch), .val (.int xf), .val (.int xt), .val (.int (-1 : Int32)), .val (.int iv), .val (.int ((ff iv.toInt.toNat) &&& (255 : Int32))), .val (.int (4 : Int32)), .val (.int lo), .val (.int hi), s9, s10, s11] [(.int (4 : Int32)), (.int iv)])) tgt
                    refine XS.iadd X0.here hx rfl (hb hby d1_196) rfl ?_
                    show Steps p.tables e below (s₁.setTop (mkF m 197 #[.val (.ref ch), .val (.int xf), .val (.int xt), .val (.int (-1 : Int32)), .val (.int iv), .val (.int ((ff iv.toInt.toNat) &&& (255 : Int32))), .val (.int (4 : Int32)), .val (.int lo), .val (.int hi), s9, s10, s11] [(.int (iv + (4 : Int32)))])) tgt
                    refine XS.iloadN X0.here hx rfl (hb hby d1_197) rfl ?_
                    exact k
                  by_cases hc198 : xt < (iv + (4 : Int32))
                  · skip
                    refine own_st (V := s₁.setTop (mkF m 5 #[.val (.ref ch), .val (.int xf), .val (.int xt), .val (.int iv), .val (.int iv), .val (.int ((ff iv.toInt.toNat) &&& (255 : Int32))), .val (.int (4 : Int32)), .val (.int lo), .val (.int hi), .val (.int (0 : Int32)), .val (.int (1 : Int32)), s11] [])) (fun tgt k => ?_) ?_
                    · show Steps p.tables e below (s₁.setTop (mkF m 198 #[.val (.ref ch), .val (.int xf), .val (.int xt), .val (.int (-1 : Int32)), .val (.int iv), .val (.int ((ff iv.toInt.toNat) &&& (255 : Int32))), .val (.int (4 : Int32)), .val (.int lo), .val (.int hi), s9, s10, s11] [(.int xt), (.int (iv + (4 : Int32)))])) tgt
                      refine XS.icmpYes X0.here hx rfl (pc0 := 198) (pc' := 205) rfl (hb hby d1_198) rfl (tlt hc198).2.2.1 (by decide) (by decide) ?_
                      show Steps p.tables e below (s₁.setTop (mkF m 205 #[.val (.ref ch), .val (.int xf), .val (.int xt), .val (.int (-1 : Int32)), .val (.int iv), .val (.int ((ff iv.toInt.toNat) &&& (255 : Int32))), .val (.int (4 : Int32)), .val (.int lo), .val (.int hi), s9, s10, s11] [])) tgt
                      refine XS.iconst X0.here hx rfl (hb hby d1_205) ?_
                      show Steps p.tables e below (s₁.setTop (mkF m 206 #[.val (.ref ch), .val (.int xf), .val (.int xt), .val (.int (-1 : Int32)), .val (.int iv), .val (.int ((ff iv.toInt.toNat) &&& (255 : Int32))), .val (.int (4 : Int32)), .val (.int lo), .val (.int hi), s9, s10, s11] [(.int (0 : Int32))])) tgt
                      refine XS.istoreS X0.here hx rfl (hb hby d1_206) rfl rfl o9 ?_
                      show Steps p.tables e below (s₁.setTop (mkF m 208 #[.val (.ref ch), .val (.int xf), .val (.int xt), .val (.int (-1 : Int32)), .val (.int iv), .val (.int ((ff iv.toInt.toNat) &&& (255 : Int32))), .val (.int (4 : Int32)), .val (.int lo), .val (.int hi), .val (.int (0 : Int32)), s10, s11] [])) tgt
                      refine XS.iconst X0.here hx rfl (hb hby d1_208) ?_
                      show Steps p.tables e below (s₁.setTop (mkF m 209 #[.val (.ref ch), .val (.int xf), .val (.int xt), .val (.int (-1 : Int32)), .val (.int iv), .val (.int ((ff iv.toInt.toNat) &&& (255 : Int32))), .val (.int (4 : Int32)), .val (.int lo), .val (.int hi), .val (.int (0 : Int32)), s10, s11] [(.int (1 : Int32))])) tgt
                      refine XS.istoreS X0.here hx rfl (hb hby d1_209) rfl rfl o10 ?_
                      show Steps p.tables e below (s₁.setTop (mkF m 211 #[.val (.ref ch), .val (.int xf), .val (.int xt), .val (.int (-1 : Int32)), .val (.int iv), .val (.int ((ff iv.toInt.toNat) &&& (255 : Int32))), .val (.int (4 : Int32)), .val (.int lo), .val (.int hi), .val (.int (0 : Int32)), .val (.int (1 : Int32)), s11] [])) tgt
                      refine XS.iload X0.here hx rfl (hb hby d1_211) rfl ?_
                      show Steps p.tables e below (s₁.setTop (mkF m 213 #[.val (.ref ch), .val (.int xf), .val (.int xt), .val (.int (-1 : Int32)), .val (.int iv), .val (.int ((ff iv.toInt.toNat) &&& (255 : Int32))), .val (.int (4 : Int32)), .val (.int lo), .val (.int hi), .val (.int (0 : Int32)), .val (.int (1 : Int32)), s11] [(.int (0 : Int32))])) tgt
                      refine XS.ifYes X0.here hx rfl (pc0 := 213) (pc' := 293) rfl (hb hby d1_213) rfl ((if0 _ _).trans (teq (by decide : (0 : Int32) = (0 : Int32))).1) (by decide) (by decide) ?_
                      show Steps p.tables e below (s₁.setTop (mkF m 293 #[.val (.ref ch), .val (.int xf), .val (.int xt), .val (.int (-1 : Int32)), .val (.int iv), .val (.int ((ff iv.toInt.toNat) &&& (255 : Int32))), .val (.int (4 : Int32)), .val (.int lo), .val (.int hi), .val (.int (0 : Int32)), .val (.int (1 : Int32)), s11] [])) tgt
                      refine XS.iload X0.here hx rfl (hb hby d1_293) rfl ?_
                      show Steps p.tables e below (s₁.setTop (mkF m 295 #[.val (.ref ch), .val (.int xf), .val (.int xt), .val (.int (-1 : Int32)), .val (.int iv), .val (.int ((ff iv.toInt.toNat) &&& (255 : Int32))), .val (.int (4 : Int32)), .val (.int lo), .val (.int hi), .val (.int (0 : Int32)), .val (.int (1 : Int32)), s11] [(.int (0 : Int32))])) tgt
                      refine XS.ifYes X0.here hx rfl (pc0 := 295) (pc' := 308) rfl (hb hby d1_295) rfl ((if0 _ _).trans (teq (by decide : (0 : Int32) = (0 : Int32))).1) (by decide) (by decide) ?_
                      show Steps p.tables e below (s₁.setTop (mkF m 308 #[.val (.ref ch), .val (.int xf), .val (.int xt), .val (.int (-1 : Int32)), .val (.int iv), .val (.int ((ff iv.toInt.toNat) &&& (255 : Int32))), .val (.int (4 : Int32)), .val (.int lo), .val (.int hi), .val (.int (0 : Int32)), .val (.int (1 : Int32)), s11] [])) tgt
                      refine XS.iload X0.here hx rfl (hb hby d1_308) rfl ?_
                      show Steps p.tables e below (s₁.setTop (mkF m 310 #[.val (.ref ch), .val (.int xf), .val (.int xt), .val (.int (-1 : Int32)), .val (.int iv), .val (.int ((ff iv.toInt.toNat) &&& (255 : Int32))), .val (.int (4 : Int32)), .val (.int lo), .val (.int hi), .val (.int (0 : Int32)), .val (.int (1 : Int32)), s11] [(.int iv)])) tgt
                      refine XS.istoreN X0.here hx rfl (hb hby d1_310) rfl (l' := #[.val (.ref ch), .val (.int xf), .val (.int xt), .val (.int iv), .val (.int iv), .val (.int ((ff iv.toInt.toNat) &&& (255 : Int32))), .val (.int (4 : Int32)), .val (.int lo), .val (.int hi), .val (.int (0 : Int32)), .val (.int (1 : Int32)), s11]) rfl ?_
                      show Steps p.tables e below (s₁.setTop (mkF m 311 #[.val (.ref ch), .val (.int xf), .val (.int xt), .val (.int iv), .val (.int iv), .val (.int ((ff iv.toInt.toNat) &&& (255 : Int32))), .val (.int (4 : Int32)), .val (.int lo), .val (.int hi), .val (.int (0 : Int32)), .val (.int (1 : Int32)), s11] [])) tgt
                      refine XS.goto X0.here hx rfl (pc0 := 311) (pc' := 5) rfl (hb hby d1_311) (by decide) (by decide) ?_
                      exact k
                    refine own_st (V := s₁.setTop (mkF m 315 #[.val (.ref ch), .val (.int xf), .val (.int xt), .val (.int iv), .val (.int iv), .val (.int ((ff iv.toInt.toNat) &&& (255 : Int32))), .val (.int (4 : Int32)), .val (.int lo), .val (.int hi), .val (.int (0 : Int32)), .val (.int (1 : Int32)), s11] [(.int iv)])) (fun tgt k => ?_) ?_
                    · show Steps p.tables e below (s₁.setTop (mkF m 5 #[.val (.ref ch), .val (.int xf), .val (.int xt), .val (.int iv), .val (.int iv), .val (.int ((ff iv.toInt.toNat) &&& (255 : Int32))), .val (.int (4 : Int32)), .val (.int lo), .val (.int hi), .val (.int (0 : Int32)), .val (.int (1 : Int32)), s11] [])) tgt
                      refine XS.iloadN X0.here hx rfl (hb hby d1_5) rfl ?_
                      show Steps p.tables e below (s₁.setTop (mkF m 6 #[.val (.ref ch), .val (.int xf), .val (.int xt), .val (.int iv), .val (.int iv), .val (.int ((ff iv.toInt.toNat) &&& (255 : Int32))), .val (.int (4 : Int32)), .val (.int lo), .val (.int hi), .val (.int (0 : Int32)), .val (.int (1 : Int32)), s11] [(.int iv)])) tgt
                      refine XS.ifYes X0.here hx rfl (pc0 := 6) (pc' := 314) rfl (hb hby d1_6) rfl ((if0 _ _).trans (flt (by rw [own_ilt, show (0 : Int32).toInt = 0 from rfl]; omega)).2.1) (by decide) (by decide) ?_
                      show Steps p.tables e below (s₁.setTop (mkF m 314 #[.val (.ref ch), .val (.int xf), .val (.int xt), .val (.int iv), .val (.int iv), .val (.int ((ff iv.toInt.toNat) &&& (255 : Int32))), .val (.int (4 : Int32)), .val (.int lo), .val (.int hi), .val (.int (0 : Int32)), .val (.int (1 : Int32)), s11] [])) tgt
                      refine XS.iloadN X0.here hx rfl (hb hby d1_314) rfl ?_
                      exact k
                    refine own_retI X0 hx hlk Bd.returns (hb hby d1_315) ?_ (by decide) (by decide)
                    show Q1 Z ch xf xt ff fu h0 n0 (some (.int iv)) s₁.heap _
                    rw [e0]
                    refine ⟨?_, N0, rfl⟩
                    exact congrArg (fun q => some (Value.int q)) (by rw [← hE, own_bad hc12 (by unfold own_S own_s4; rw [if_neg hc43, if_neg hc57, if_pos hc65, if_pos hc87, if_neg hc145, ← hlo, ← hhi, if_pos hc198])])
                  · skip
                    refine own_st (V := s₁.setTop (mkF m 201 #[.val (.ref ch), .val (.int xf), .val (.int xt), .val (.int (-1 : Int32)), .val (.int iv), .val (.int ((ff iv.toInt.toNat) &&& (255 : Int32))), .val (.int (4 : Int32)), .val (.int lo), .val (.int hi), s9, s10, s11] [])) (fun tgt k => ?_) ?_
                    · show Steps p.tables e below (s₁.setTop (mkF m 198 #[.val (.ref ch), .val (.int xf), .val (.int xt), .val (.int (-1 : Int32)), .val (.int iv), .val (.int ((ff iv.toInt.toNat) &&& (255 : Int32))), .val (.int (4 : Int32)), .val (.int lo), .val (.int hi), s9, s10, s11] [(.int xt), (.int (iv + (4 : Int32)))])) tgt
                      refine XS.icmpNo X0.here hx rfl (hb hby d1_198) rfl (flt hc198).2.2.1 ?_
                      exact k
                    have hfit : iv.toInt + 4 ≤ xt.toInt := by rw [own_ilt, a4] at hc198; omega
                    refine own_st (V := s₁.setTop (mkF m 246 #[.val (.ref ch), .val (.int xf), .val (.int xt), .val (.int (-1 : Int32)), .val (.int iv), .val (.int ((ff iv.toInt.toNat) &&& (255 : Int32))), .val (.int (4 : Int32)), .val (.int lo), .val (.int hi), .val (.int (1 : Int32)), .val (.int (1 : Int32)), .val (.int ((ff (iv.toInt.toNat + 1)) &&& (255 : Int32)))] [(.int lo), (.int ((ff (iv.toInt.toNat + 1)) &&& (255 : Int32)))])) (fun tgt k => ?_) ?_
                    · show Steps p.tables e below (s₁.setTop (mkF m 201 #[.val (.ref ch), .val (.int xf), .val (.int xt), .val (.int (-1 : Int32)), .val (.int iv), .val (.int ((ff iv.toInt.toNat) &&& (255 : Int32))), .val (.int (4 : Int32)), .val (.int lo), .val (.int hi), s9, s10, s11] [])) tgt
                      refine XS.iconst X0.here hx rfl (hb hby d1_201) ?_
                      show Steps p.tables e below (s₁.setTop (mkF m 202 #[.val (.ref ch), .val (.int xf), .val (.int xt), .val (.int (-1 : Int32)), .val (.int iv), .val (.int ((ff iv.toInt.toNat) &&& (255 : Int32))), .val (.int (4 : Int32)), .val (.int lo), .val (.int hi), s9, s10, s11] [(.int (1 : Int32))])) tgt
                      refine XS.goto X0.here hx rfl (pc0 := 202) (pc' := 206) rfl (hb hby d1_202) (by decide) (by decide) ?_
                      show Steps p.tables e below (s₁.setTop (mkF m 206 #[.val (.ref ch), .val (.int xf), .val (.int xt), .val (.int (-1 : Int32)), .val (.int iv), .val (.int ((ff iv.toInt.toNat) &&& (255 : Int32))), .val (.int (4 : Int32)), .val (.int lo), .val (.int hi), s9, s10, s11] [(.int (1 : Int32))])) tgt
                      refine XS.istoreS X0.here hx rfl (hb hby d1_206) rfl rfl o9 ?_
                      show Steps p.tables e below (s₁.setTop (mkF m 208 #[.val (.ref ch), .val (.int xf), .val (.int xt), .val (.int (-1 : Int32)), .val (.int iv), .val (.int ((ff iv.toInt.toNat) &&& (255 : Int32))), .val (.int (4 : Int32)), .val (.int lo), .val (.int hi), .val (.int (1 : Int32)), s10, s11] [])) tgt
                      refine XS.iconst X0.here hx rfl (hb hby d1_208) ?_
                      show Steps p.tables e below (s₁.setTop (mkF m 209 #[.val (.ref ch), .val (.int xf), .val (.int xt), .val (.int (-1 : Int32)), .val (.int iv), .val (.int ((ff iv.toInt.toNat) &&& (255 : Int32))), .val (.int (4 : Int32)), .val (.int lo), .val (.int hi), .val (.int (1 : Int32)), s10, s11] [(.int (1 : Int32))])) tgt
                      refine XS.istoreS X0.here hx rfl (hb hby d1_209) rfl rfl o10 ?_
                      show Steps p.tables e below (s₁.setTop (mkF m 211 #[.val (.ref ch), .val (.int xf), .val (.int xt), .val (.int (-1 : Int32)), .val (.int iv), .val (.int ((ff iv.toInt.toNat) &&& (255 : Int32))), .val (.int (4 : Int32)), .val (.int lo), .val (.int hi), .val (.int (1 : Int32)), .val (.int (1 : Int32)), s11] [])) tgt
                      refine XS.iload X0.here hx rfl (hb hby d1_211) rfl ?_
                      show Steps p.tables e below (s₁.setTop (mkF m 213 #[.val (.ref ch), .val (.int xf), .val (.int xt), .val (.int (-1 : Int32)), .val (.int iv), .val (.int ((ff iv.toInt.toNat) &&& (255 : Int32))), .val (.int (4 : Int32)), .val (.int lo), .val (.int hi), .val (.int (1 : Int32)), .val (.int (1 : Int32)), s11] [(.int (1 : Int32))])) tgt
                      refine XS.ifNo X0.here hx rfl (hb hby d1_213) rfl ((if0 _ _).trans (feq (by decide : ¬ ((1 : Int32) = (0 : Int32)))).1) ?_
                      show Steps p.tables e below (s₁.setTop (mkF m 216 #[.val (.ref ch), .val (.int xf), .val (.int xt), .val (.int (-1 : Int32)), .val (.int iv), .val (.int ((ff iv.toInt.toNat) &&& (255 : Int32))), .val (.int (4 : Int32)), .val (.int lo), .val (.int hi), .val (.int (1 : Int32)), .val (.int (1 : Int32)), s11] [])) tgt
                      refine XS.iload X0.here hx rfl (hb hby d1_216) rfl ?_
                      show Steps p.tables e below (s₁.setTop (mkF m 218 #[.val (.ref ch), .val (.int xf), .val (.int xt), .val (.int (-1 : Int32)), .val (.int iv), .val (.int ((ff iv.toInt.toNat) &&& (255 : Int32))), .val (.int (4 : Int32)), .val (.int lo), .val (.int hi), .val (.int (1 : Int32)), .val (.int (1 : Int32)), s11] [(.int (1 : Int32))])) tgt
                      refine XS.iload X0.here hx rfl (hb hby d1_218) rfl ?_
                      show Steps p.tables e below (s₁.setTop (mkF m 220 #[.val (.ref ch), .val (.int xf), .val (.int xt), .val (.int (-1 : Int32)), .val (.int iv), .val (.int ((ff iv.toInt.toNat) &&& (255 : Int32))), .val (.int (4 : Int32)), .val (.int lo), .val (.int hi), .val (.int (1 : Int32)), .val (.int (1 : Int32)), s11] [(.int (4 : Int32)), (.int (1 : Int32))])) tgt
                      refine XS.icmpNo X0.here hx rfl (hb hby d1_220) rfl (tlt (by decide : (1 : Int32) < (4 : Int32))).2.1 ?_
                      show Steps p.tables e below (s₁.setTop (mkF m 223 #[.val (.ref ch), .val (.int xf), .val (.int xt), .val (.int (-1 : Int32)), .val (.int iv), .val (.int ((ff iv.toInt.toNat) &&& (255 : Int32))), .val (.int (4 : Int32)), .val (.int lo), .val (.int hi), .val (.int (1 : Int32)), .val (.int (1 : Int32)), s11] [])) tgt
                      refine XS.aloadN X0.here hx rfl (hb hby d1_223) rfl rfl ?_
                      show Steps p.tables e below (s₁.setTop (mkF m 224 #[.val (.ref ch), .val (.int xf), .val (.int xt), .val (.int (-1 : Int32)), .val (.int iv), .val (.int ((ff iv.toInt.toNat) &&& (255 : Int32))), .val (.int (4 : Int32)), .val (.int lo), .val (.int hi), .val (.int (1 : Int32)), .val (.int (1 : Int32)), s11] [(.ref ch)])) tgt
                      refine XS.iload X0.here hx rfl (hb hby d1_224) rfl ?_
                      show Steps p.tables e below (s₁.setTop (mkF m 226 #[.val (.ref ch), .val (.int xf), .val (.int xt), .val (.int (-1 : Int32)), .val (.int iv), .val (.int ((ff iv.toInt.toNat) &&& (255 : Int32))), .val (.int (4 : Int32)), .val (.int lo), .val (.int hi), .val (.int (1 : Int32)), .val (.int (1 : Int32)), s11] [(.int iv), (.ref ch)])) tgt
                      refine XS.iload X0.here hx rfl (hb hby d1_226) rfl ?_
                      show Steps p.tables e below (s₁.setTop (mkF m 228 #[.val (.ref ch), .val (.int xf), .val (.int xt), .val (.int (-1 : Int32)), .val (.int iv), .val (.int ((ff iv.toInt.toNat) &&& (255 : Int32))), .val (.int (4 : Int32)), .val (.int lo), .val (.int hi), .val (.int (1 : Int32)), .val (.int (1 : Int32)), s11] [(.int (1 : Int32)), (.int iv), (.ref ch)])) tgt
                      refine XS.iadd X0.here hx rfl (hb hby d1_228) rfl ?_
                      show Steps p.tables e below (s₁.setTop (mkF m 229 #[.val (.ref ch), .val (.int xf), .val (.int xt), .val (.int (-1 : Int32)), .val (.int iv), .val (.int ((ff iv.toInt.toNat) &&& (255 : Int32))), .val (.int (4 : Int32)), .val (.int lo), .val (.int hi), .val (.int (1 : Int32)), .val (.int (1 : Int32)), s11] [(.int (iv + (1 : Int32))), (.ref ch)])) tgt
                      refine own_baload X0 hx hZ e0 A1 (j := (iv + (1 : Int32))) (k := (iv.toInt.toNat + 1)) a1 (by rw [own_ilt] at hc12; have := hfit; omega) (g := (mkF m 229 #[.val (.ref ch), .val (.int xf), .val (.int xt), .val (.int (-1 : Int32)), .val (.int iv), .val (.int ((ff iv.toInt.toNat) &&& (255 : Int32))), .val (.int (4 : Int32)), .val (.int lo), .val (.int hi), .val (.int (1 : Int32)), .val (.int (1 : Int32)), s11] [(.int (iv + (1 : Int32))), (.ref ch)])) rfl rfl (hb hby d1_229) ?_
                      show Steps p.tables e below (s₁.setTop (mkF m 230 #[.val (.ref ch), .val (.int xf), .val (.int xt), .val (.int (-1 : Int32)), .val (.int iv), .val (.int ((ff iv.toInt.toNat) &&& (255 : Int32))), .val (.int (4 : Int32)), .val (.int lo), .val (.int hi), .val (.int (1 : Int32)), .val (.int (1 : Int32)), s11] [(.int (ff (iv.toInt.toNat + 1)))])) tgt
                      refine XS.sipush X0.here hx rfl (hb hby d1_230) ?_
                      show Steps p.tables e below (s₁.setTop (mkF m 233 #[.val (.ref ch), .val (.int xf), .val (.int xt), .val (.int (-1 : Int32)), .val (.int iv), .val (.int ((ff iv.toInt.toNat) &&& (255 : Int32))), .val (.int (4 : Int32)), .val (.int lo), .val (.int hi), .val (.int (1 : Int32)), .val (.int (1 : Int32)), s11] [(.int (255 : Int32)), (.int (ff (iv.toInt.toNat + 1)))])) tgt
                      refine XS.iand X0.here hx rfl (hb hby d1_233) rfl ?_
                      show Steps p.tables e below (s₁.setTop (mkF m 234 #[.val (.ref ch), .val (.int xf), .val (.int xt), .val (.int (-1 : Int32)), .val (.int iv), .val (.int ((ff iv.toInt.toNat) &&& (255 : Int32))), .val (.int (4 : Int32)), .val (.int lo), .val (.int hi), .val (.int (1 : Int32)), .val (.int (1 : Int32)), s11] [(.int ((ff (iv.toInt.toNat + 1)) &&& (255 : Int32)))])) tgt
                      refine XS.istoreS X0.here hx rfl (hb hby d1_234) rfl rfl o11 ?_
                      show Steps p.tables e below (s₁.setTop (mkF m 236 #[.val (.ref ch), .val (.int xf), .val (.int xt), .val (.int (-1 : Int32)), .val (.int iv), .val (.int ((ff iv.toInt.toNat) &&& (255 : Int32))), .val (.int (4 : Int32)), .val (.int lo), .val (.int hi), .val (.int (1 : Int32)), .val (.int (1 : Int32)), .val (.int ((ff (iv.toInt.toNat + 1)) &&& (255 : Int32)))] [])) tgt
                      refine XS.iload X0.here hx rfl (hb hby d1_236) rfl ?_
                      show Steps p.tables e below (s₁.setTop (mkF m 238 #[.val (.ref ch), .val (.int xf), .val (.int xt), .val (.int (-1 : Int32)), .val (.int iv), .val (.int ((ff iv.toInt.toNat) &&& (255 : Int32))), .val (.int (4 : Int32)), .val (.int lo), .val (.int hi), .val (.int (1 : Int32)), .val (.int (1 : Int32)), .val (.int ((ff (iv.toInt.toNat + 1)) &&& (255 : Int32)))] [(.int (1 : Int32))])) tgt
                      refine XS.iconst X0.here hx rfl (hb hby d1_238) ?_
                      show Steps p.tables e below (s₁.setTop (mkF m 239 #[.val (.ref ch), .val (.int xf), .val (.int xt), .val (.int (-1 : Int32)), .val (.int iv), .val (.int ((ff iv.toInt.toNat) &&& (255 : Int32))), .val (.int (4 : Int32)), .val (.int lo), .val (.int hi), .val (.int (1 : Int32)), .val (.int (1 : Int32)), .val (.int ((ff (iv.toInt.toNat + 1)) &&& (255 : Int32)))] [(.int (1 : Int32)), (.int (1 : Int32))])) tgt
                      refine XS.icmpNo X0.here hx rfl (hb hby d1_239) rfl (teq (by decide : (1 : Int32) = (1 : Int32))).2 ?_
                      show Steps p.tables e below (s₁.setTop (mkF m 242 #[.val (.ref ch), .val (.int xf), .val (.int xt), .val (.int (-1 : Int32)), .val (.int iv), .val (.int ((ff iv.toInt.toNat) &&& (255 : Int32))), .val (.int (4 : Int32)), .val (.int lo), .val (.int hi), .val (.int (1 : Int32)), .val (.int (1 : Int32)), .val (.int ((ff (iv.toInt.toNat + 1)) &&& (255 : Int32)))] [])) tgt
                      refine XS.iload X0.here hx rfl (hb hby d1_242) rfl ?_
                      show Steps p.tables e below (s₁.setTop (mkF m 244 #[.val (.ref ch), .val (.int xf), .val (.int xt), .val (.int (-1 : Int32)), .val (.int iv), .val (.int ((ff iv.toInt.toNat) &&& (255 : Int32))), .val (.int (4 : Int32)), .val (.int lo), .val (.int hi), .val (.int (1 : Int32)), .val (.int (1 : Int32)), .val (.int ((ff (iv.toInt.toNat + 1)) &&& (255 : Int32)))] [(.int ((ff (iv.toInt.toNat + 1)) &&& (255 : Int32)))])) tgt
                      refine XS.iload X0.here hx rfl (hb hby d1_244) rfl ?_
                      exact k
                    by_cases hc246 : ((ff (iv.toInt.toNat + 1)) &&& (255 : Int32)) < lo
                    · skip
                      refine own_st (V := s₁.setTop (mkF m 290 #[.val (.ref ch), .val (.int xf), .val (.int xt), .val (.int (-1 : Int32)), .val (.int iv), .val (.int ((ff iv.toInt.toNat) &&& (255 : Int32))), .val (.int (4 : Int32)), .val (.int lo), .val (.int hi), .val (.int (0 : Int32)), .val (.int ((1 : Int32) + (1 : Int32))), .val (.int ((ff (iv.toInt.toNat + 1)) &&& (255 : Int32)))] [])) (fun tgt k => ?_) ?_
                      · show Steps p.tables e below (s₁.setTop (mkF m 246 #[.val (.ref ch), .val (.int xf), .val (.int xt), .val (.int (-1 : Int32)), .val (.int iv), .val (.int ((ff iv.toInt.toNat) &&& (255 : Int32))), .val (.int (4 : Int32)), .val (.int lo), .val (.int hi), .val (.int (1 : Int32)), .val (.int (1 : Int32)), .val (.int ((ff (iv.toInt.toNat + 1)) &&& (255 : Int32)))] [(.int lo), (.int ((ff (iv.toInt.toNat + 1)) &&& (255 : Int32)))])) tgt
                        refine XS.icmpYes X0.here hx rfl (pc0 := 246) (pc' := 260) rfl (hb hby d1_246) rfl (tlt hc246).1 (by decide) (by decide) ?_
                        show Steps p.tables e below (s₁.setTop (mkF m 260 #[.val (.ref ch), .val (.int xf), .val (.int xt), .val (.int (-1 : Int32)), .val (.int iv), .val (.int ((ff iv.toInt.toNat) &&& (255 : Int32))), .val (.int (4 : Int32)), .val (.int lo), .val (.int hi), .val (.int (1 : Int32)), .val (.int (1 : Int32)), .val (.int ((ff (iv.toInt.toNat + 1)) &&& (255 : Int32)))] [])) tgt
                        refine XS.iconst X0.here hx rfl (hb hby d1_260) ?_
                        show Steps p.tables e below (s₁.setTop (mkF m 261 #[.val (.ref ch), .val (.int xf), .val (.int xt), .val (.int (-1 : Int32)), .val (.int iv), .val (.int ((ff iv.toInt.toNat) &&& (255 : Int32))), .val (.int (4 : Int32)), .val (.int lo), .val (.int hi), .val (.int (1 : Int32)), .val (.int (1 : Int32)), .val (.int ((ff (iv.toInt.toNat + 1)) &&& (255 : Int32)))] [(.int (0 : Int32))])) tgt
                        refine XS.goto X0.here hx rfl (pc0 := 261) (pc' := 285) rfl (hb hby d1_261) (by decide) (by decide) ?_
                        show Steps p.tables e below (s₁.setTop (mkF m 285 #[.val (.ref ch), .val (.int xf), .val (.int xt), .val (.int (-1 : Int32)), .val (.int iv), .val (.int ((ff iv.toInt.toNat) &&& (255 : Int32))), .val (.int (4 : Int32)), .val (.int lo), .val (.int hi), .val (.int (1 : Int32)), .val (.int (1 : Int32)), .val (.int ((ff (iv.toInt.toNat + 1)) &&& (255 : Int32)))] [(.int (0 : Int32))])) tgt
                        refine XS.istore X0.here hx rfl (hb hby d1_285) rfl (l' := #[.val (.ref ch), .val (.int xf), .val (.int xt), .val (.int (-1 : Int32)), .val (.int iv), .val (.int ((ff iv.toInt.toNat) &&& (255 : Int32))), .val (.int (4 : Int32)), .val (.int lo), .val (.int hi), .val (.int (0 : Int32)), .val (.int (1 : Int32)), .val (.int ((ff (iv.toInt.toNat + 1)) &&& (255 : Int32)))]) rfl ?_
                        show Steps p.tables e below (s₁.setTop (mkF m 287 #[.val (.ref ch), .val (.int xf), .val (.int xt), .val (.int (-1 : Int32)), .val (.int iv), .val (.int ((ff iv.toInt.toNat) &&& (255 : Int32))), .val (.int (4 : Int32)), .val (.int lo), .val (.int hi), .val (.int (0 : Int32)), .val (.int (1 : Int32)), .val (.int ((ff (iv.toInt.toNat + 1)) &&& (255 : Int32)))] [])) tgt
                        refine XS.iinc X0.here hx rfl (hb hby d1_287) rfl (l' := #[.val (.ref ch), .val (.int xf), .val (.int xt), .val (.int (-1 : Int32)), .val (.int iv), .val (.int ((ff iv.toInt.toNat) &&& (255 : Int32))), .val (.int (4 : Int32)), .val (.int lo), .val (.int hi), .val (.int (0 : Int32)), .val (.int ((1 : Int32) + (1 : Int32))), .val (.int ((ff (iv.toInt.toNat + 1)) &&& (255 : Int32)))]) rfl ?_
                        exact k
                      rw [show ((1 : Int32) + (1 : Int32)) = (2 : Int32) from by decide]
                      refine own_st (V := s₁.setTop (mkF m 5 #[.val (.ref ch), .val (.int xf), .val (.int xt), .val (.int iv), .val (.int iv), .val (.int ((ff iv.toInt.toNat) &&& (255 : Int32))), .val (.int (4 : Int32)), .val (.int lo), .val (.int hi), .val (.int (0 : Int32)), .val (.int (2 : Int32)), .val (.int ((ff (iv.toInt.toNat + 1)) &&& (255 : Int32)))] [])) (fun tgt k => ?_) ?_
                      · show Steps p.tables e below (s₁.setTop (mkF m 290 #[.val (.ref ch), .val (.int xf), .val (.int xt), .val (.int (-1 : Int32)), .val (.int iv), .val (.int ((ff iv.toInt.toNat) &&& (255 : Int32))), .val (.int (4 : Int32)), .val (.int lo), .val (.int hi), .val (.int (0 : Int32)), .val (.int (2 : Int32)), .val (.int ((ff (iv.toInt.toNat + 1)) &&& (255 : Int32)))] [])) tgt
                        refine XS.goto X0.here hx rfl (pc0 := 290) (pc' := 211) rfl (hb hby d1_290) (by decide) (by decide) ?_
                        show Steps p.tables e below (s₁.setTop (mkF m 211 #[.val (.ref ch), .val (.int xf), .val (.int xt), .val (.int (-1 : Int32)), .val (.int iv), .val (.int ((ff iv.toInt.toNat) &&& (255 : Int32))), .val (.int (4 : Int32)), .val (.int lo), .val (.int hi), .val (.int (0 : Int32)), .val (.int (2 : Int32)), .val (.int ((ff (iv.toInt.toNat + 1)) &&& (255 : Int32)))] [])) tgt
                        refine XS.iload X0.here hx rfl (hb hby d1_211) rfl ?_
                        show Steps p.tables e below (s₁.setTop (mkF m 213 #[.val (.ref ch), .val (.int xf), .val (.int xt), .val (.int (-1 : Int32)), .val (.int iv), .val (.int ((ff iv.toInt.toNat) &&& (255 : Int32))), .val (.int (4 : Int32)), .val (.int lo), .val (.int hi), .val (.int (0 : Int32)), .val (.int (2 : Int32)), .val (.int ((ff (iv.toInt.toNat + 1)) &&& (255 : Int32)))] [(.int (0 : Int32))])) tgt
                        refine XS.ifYes X0.here hx rfl (pc0 := 213) (pc' := 293) rfl (hb hby d1_213) rfl ((if0 _ _).trans (teq (by decide : (0 : Int32) = (0 : Int32))).1) (by decide) (by decide) ?_
                        show Steps p.tables e below (s₁.setTop (mkF m 293 #[.val (.ref ch), .val (.int xf), .val (.int xt), .val (.int (-1 : Int32)), .val (.int iv), .val (.int ((ff iv.toInt.toNat) &&& (255 : Int32))), .val (.int (4 : Int32)), .val (.int lo), .val (.int hi), .val (.int (0 : Int32)), .val (.int (2 : Int32)), .val (.int ((ff (iv.toInt.toNat + 1)) &&& (255 : Int32)))] [])) tgt
                        refine XS.iload X0.here hx rfl (hb hby d1_293) rfl ?_
                        show Steps p.tables e below (s₁.setTop (mkF m 295 #[.val (.ref ch), .val (.int xf), .val (.int xt), .val (.int (-1 : Int32)), .val (.int iv), .val (.int ((ff iv.toInt.toNat) &&& (255 : Int32))), .val (.int (4 : Int32)), .val (.int lo), .val (.int hi), .val (.int (0 : Int32)), .val (.int (2 : Int32)), .val (.int ((ff (iv.toInt.toNat + 1)) &&& (255 : Int32)))] [(.int (0 : Int32))])) tgt
                        refine XS.ifYes X0.here hx rfl (pc0 := 295) (pc' := 308) rfl (hb hby d1_295) rfl ((if0 _ _).trans (teq (by decide : (0 : Int32) = (0 : Int32))).1) (by decide) (by decide) ?_
                        show Steps p.tables e below (s₁.setTop (mkF m 308 #[.val (.ref ch), .val (.int xf), .val (.int xt), .val (.int (-1 : Int32)), .val (.int iv), .val (.int ((ff iv.toInt.toNat) &&& (255 : Int32))), .val (.int (4 : Int32)), .val (.int lo), .val (.int hi), .val (.int (0 : Int32)), .val (.int (2 : Int32)), .val (.int ((ff (iv.toInt.toNat + 1)) &&& (255 : Int32)))] [])) tgt
                        refine XS.iload X0.here hx rfl (hb hby d1_308) rfl ?_
                        show Steps p.tables e below (s₁.setTop (mkF m 310 #[.val (.ref ch), .val (.int xf), .val (.int xt), .val (.int (-1 : Int32)), .val (.int iv), .val (.int ((ff iv.toInt.toNat) &&& (255 : Int32))), .val (.int (4 : Int32)), .val (.int lo), .val (.int hi), .val (.int (0 : Int32)), .val (.int (2 : Int32)), .val (.int ((ff (iv.toInt.toNat + 1)) &&& (255 : Int32)))] [(.int iv)])) tgt
                        refine XS.istoreN X0.here hx rfl (hb hby d1_310) rfl (l' := #[.val (.ref ch), .val (.int xf), .val (.int xt), .val (.int iv), .val (.int iv), .val (.int ((ff iv.toInt.toNat) &&& (255 : Int32))), .val (.int (4 : Int32)), .val (.int lo), .val (.int hi), .val (.int (0 : Int32)), .val (.int (2 : Int32)), .val (.int ((ff (iv.toInt.toNat + 1)) &&& (255 : Int32)))]) rfl ?_
                        show Steps p.tables e below (s₁.setTop (mkF m 311 #[.val (.ref ch), .val (.int xf), .val (.int xt), .val (.int iv), .val (.int iv), .val (.int ((ff iv.toInt.toNat) &&& (255 : Int32))), .val (.int (4 : Int32)), .val (.int lo), .val (.int hi), .val (.int (0 : Int32)), .val (.int (2 : Int32)), .val (.int ((ff (iv.toInt.toNat + 1)) &&& (255 : Int32)))] [])) tgt
                        refine XS.goto X0.here hx rfl (pc0 := 311) (pc' := 5) rfl (hb hby d1_311) (by decide) (by decide) ?_
                        exact k
                      refine own_st (V := s₁.setTop (mkF m 315 #[.val (.ref ch), .val (.int xf), .val (.int xt), .val (.int iv), .val (.int iv), .val (.int ((ff iv.toInt.toNat) &&& (255 : Int32))), .val (.int (4 : Int32)), .val (.int lo), .val (.int hi), .val (.int (0 : Int32)), .val (.int (2 : Int32)), .val (.int ((ff (iv.toInt.toNat + 1)) &&& (255 : Int32)))] [(.int iv)])) (fun tgt k => ?_) ?_
                      · show Steps p.tables e below (s₁.setTop (mkF m 5 #[.val (.ref ch), .val (.int xf), .val (.int xt), .val (.int iv), .val (.int iv), .val (.int ((ff iv.toInt.toNat) &&& (255 : Int32))), .val (.int (4 : Int32)), .val (.int lo), .val (.int hi), .val (.int (0 : Int32)), .val (.int (2 : Int32)), .val (.int ((ff (iv.toInt.toNat + 1)) &&& (255 : Int32)))] [])) tgt
                        refine XS.iloadN X0.here hx rfl (hb hby d1_5) rfl ?_
                        show Steps p.tables e below (s₁.setTop (mkF m 6 #[.val (.ref ch), .val (.int xf), .val (.int xt), .val (.int iv), .val (.int iv), .val (.int ((ff iv.toInt.toNat) &&& (255 : Int32))), .val (.int (4 : Int32)), .val (.int lo), .val (.int hi), .val (.int (0 : Int32)), .val (.int (2 : Int32)), .val (.int ((ff (iv.toInt.toNat + 1)) &&& (255 : Int32)))] [(.int iv)])) tgt
                        refine XS.ifYes X0.here hx rfl (pc0 := 6) (pc' := 314) rfl (hb hby d1_6) rfl ((if0 _ _).trans (flt (by rw [own_ilt, show (0 : Int32).toInt = 0 from rfl]; omega)).2.1) (by decide) (by decide) ?_
                        show Steps p.tables e below (s₁.setTop (mkF m 314 #[.val (.ref ch), .val (.int xf), .val (.int xt), .val (.int iv), .val (.int iv), .val (.int ((ff iv.toInt.toNat) &&& (255 : Int32))), .val (.int (4 : Int32)), .val (.int lo), .val (.int hi), .val (.int (0 : Int32)), .val (.int (2 : Int32)), .val (.int ((ff (iv.toInt.toNat + 1)) &&& (255 : Int32)))] [])) tgt
                        refine XS.iloadN X0.here hx rfl (hb hby d1_314) rfl ?_
                        exact k
                      refine own_retI X0 hx hlk Bd.returns (hb hby d1_315) ?_ (by decide) (by decide)
                      show Q1 Z ch xf xt ff fu h0 n0 (some (.int iv)) s₁.heap _
                      rw [e0]
                      refine ⟨?_, N0, rfl⟩
                      exact congrArg (fun q => some (Value.int q)) (by rw [← hE, own_bad hc12 (by unfold own_S own_s4; rw [if_neg hc43, if_neg hc57, if_pos hc65, if_pos hc87, if_neg hc145, ← hlo, ← hhi, if_neg hc198, if_pos hc246])])
                    · skip
                      refine own_st (V := s₁.setTop (mkF m 253 #[.val (.ref ch), .val (.int xf), .val (.int xt), .val (.int (-1 : Int32)), .val (.int iv), .val (.int ((ff iv.toInt.toNat) &&& (255 : Int32))), .val (.int (4 : Int32)), .val (.int lo), .val (.int hi), .val (.int (1 : Int32)), .val (.int (1 : Int32)), .val (.int ((ff (iv.toInt.toNat + 1)) &&& (255 : Int32)))] [(.int hi), (.int ((ff (iv.toInt.toNat + 1)) &&& (255 : Int32)))])) (fun tgt k => ?_) ?_
                      · show Steps p.tables e below (s₁.setTop (mkF m 246 #[.val (.ref ch), .val (.int xf), .val (.int xt), .val (.int (-1 : Int32)), .val (.int iv), .val (.int ((ff iv.toInt.toNat) &&& (255 : Int32))), .val (.int (4 : Int32)), .val (.int lo), .val (.int hi), .val (.int (1 : Int32)), .val (.int (1 : Int32)), .val (.int ((ff (iv.toInt.toNat + 1)) &&& (255 : Int32)))] [(.int lo), (.int ((ff (iv.toInt.toNat + 1)) &&& (255 : Int32)))])) tgt
                        refine XS.icmpNo X0.here hx rfl (hb hby d1_246) rfl (flt hc246).1 ?_
                        show Steps p.tables e below (s₁.setTop (mkF m 249 #[.val (.ref ch), .val (.int xf), .val (.int xt), .val (.int (-1 : Int32)), .val (.int iv), .val (.int ((ff iv.toInt.toNat) &&& (255 : Int32))), .val (.int (4 : Int32)), .val (.int lo), .val (.int hi), .val (.int (1 : Int32)), .val (.int (1 : Int32)), .val (.int ((ff (iv.toInt.toNat + 1)) &&& (255 : Int32)))] [])) tgt
                        refine XS.iload X0.here hx rfl (hb hby d1_249) rfl ?_
                        show Steps p.tables e below (s₁.setTop (mkF m 251 #[.val (.ref ch), .val (.int xf), .val (.int xt), .val (.int (-1 : Int32)), .val (.int iv), .val (.int ((ff iv.toInt.toNat) &&& (255 : Int32))), .val (.int (4 : Int32)), .val (.int lo), .val (.int hi), .val (.int (1 : Int32)), .val (.int (1 : Int32)), .val (.int ((ff (iv.toInt.toNat + 1)) &&& (255 : Int32)))] [(.int ((ff (iv.toInt.toNat + 1)) &&& (255 : Int32)))])) tgt
                        refine XS.iload X0.here hx rfl (hb hby d1_251) rfl ?_
                        exact k
                      by_cases hc253 : hi < ((ff (iv.toInt.toNat + 1)) &&& (255 : Int32))
                      · skip
                        refine own_st (V := s₁.setTop (mkF m 290 #[.val (.ref ch), .val (.int xf), .val (.int xt), .val (.int (-1 : Int32)), .val (.int iv), .val (.int ((ff iv.toInt.toNat) &&& (255 : Int32))), .val (.int (4 : Int32)), .val (.int lo), .val (.int hi), .val (.int (0 : Int32)), .val (.int ((1 : Int32) + (1 : Int32))), .val (.int ((ff (iv.toInt.toNat + 1)) &&& (255 : Int32)))] [])) (fun tgt k => ?_) ?_
                        · show Steps p.tables e below (s₁.setTop (mkF m 253 #[.val (.ref ch), .val (.int xf), .val (.int xt), .val (.int (-1 : Int32)), .val (.int iv), .val (.int ((ff iv.toInt.toNat) &&& (255 : Int32))), .val (.int (4 : Int32)), .val (.int lo), .val (.int hi), .val (.int (1 : Int32)), .val (.int (1 : Int32)), .val (.int ((ff (iv.toInt.toNat + 1)) &&& (255 : Int32)))] [(.int hi), (.int ((ff (iv.toInt.toNat + 1)) &&& (255 : Int32)))])) tgt
                          refine XS.icmpYes X0.here hx rfl (pc0 := 253) (pc' := 260) rfl (hb hby d1_253) rfl (tlt hc253).2.2.1 (by decide) (by decide) ?_
                          show Steps p.tables e below (s₁.setTop (mkF m 260 #[.val (.ref ch), .val (.int xf), .val (.int xt), .val (.int (-1 : Int32)), .val (.int iv), .val (.int ((ff iv.toInt.toNat) &&& (255 : Int32))), .val (.int (4 : Int32)), .val (.int lo), .val (.int hi), .val (.int (1 : Int32)), .val (.int (1 : Int32)), .val (.int ((ff (iv.toInt.toNat + 1)) &&& (255 : Int32)))] [])) tgt
                          refine XS.iconst X0.here hx rfl (hb hby d1_260) ?_
                          show Steps p.tables e below (s₁.setTop (mkF m 261 #[.val (.ref ch), .val (.int xf), .val (.int xt), .val (.int (-1 : Int32)), .val (.int iv), .val (.int ((ff iv.toInt.toNat) &&& (255 : Int32))), .val (.int (4 : Int32)), .val (.int lo), .val (.int hi), .val (.int (1 : Int32)), .val (.int (1 : Int32)), .val (.int ((ff (iv.toInt.toNat + 1)) &&& (255 : Int32)))] [(.int (0 : Int32))])) tgt
                          refine XS.goto X0.here hx rfl (pc0 := 261) (pc' := 285) rfl (hb hby d1_261) (by decide) (by decide) ?_
                          show Steps p.tables e below (s₁.setTop (mkF m 285 #[.val (.ref ch), .val (.int xf), .val (.int xt), .val (.int (-1 : Int32)), .val (.int iv), .val (.int ((ff iv.toInt.toNat) &&& (255 : Int32))), .val (.int (4 : Int32)), .val (.int lo), .val (.int hi), .val (.int (1 : Int32)), .val (.int (1 : Int32)), .val (.int ((ff (iv.toInt.toNat + 1)) &&& (255 : Int32)))] [(.int (0 : Int32))])) tgt
                          refine XS.istore X0.here hx rfl (hb hby d1_285) rfl (l' := #[.val (.ref ch), .val (.int xf), .val (.int xt), .val (.int (-1 : Int32)), .val (.int iv), .val (.int ((ff iv.toInt.toNat) &&& (255 : Int32))), .val (.int (4 : Int32)), .val (.int lo), .val (.int hi), .val (.int (0 : Int32)), .val (.int (1 : Int32)), .val (.int ((ff (iv.toInt.toNat + 1)) &&& (255 : Int32)))]) rfl ?_
                          show Steps p.tables e below (s₁.setTop (mkF m 287 #[.val (.ref ch), .val (.int xf), .val (.int xt), .val (.int (-1 : Int32)), .val (.int iv), .val (.int ((ff iv.toInt.toNat) &&& (255 : Int32))), .val (.int (4 : Int32)), .val (.int lo), .val (.int hi), .val (.int (0 : Int32)), .val (.int (1 : Int32)), .val (.int ((ff (iv.toInt.toNat + 1)) &&& (255 : Int32)))] [])) tgt
                          refine XS.iinc X0.here hx rfl (hb hby d1_287) rfl (l' := #[.val (.ref ch), .val (.int xf), .val (.int xt), .val (.int (-1 : Int32)), .val (.int iv), .val (.int ((ff iv.toInt.toNat) &&& (255 : Int32))), .val (.int (4 : Int32)), .val (.int lo), .val (.int hi), .val (.int (0 : Int32)), .val (.int ((1 : Int32) + (1 : Int32))), .val (.int ((ff (iv.toInt.toNat + 1)) &&& (255 : Int32)))]) rfl ?_
                          exact k
                        rw [show ((1 : Int32) + (1 : Int32)) = (2 : Int32) from by decide]
                        refine own_st (V := s₁.setTop (mkF m 5 #[.val (.ref ch), .val (.int xf), .val (.int xt), .val (.int iv), .val (.int iv), .val (.int ((ff iv.toInt.toNat) &&& (255 : Int32))), .val (.int (4 : Int32)), .val (.int lo), .val (.int hi), .val (.int (0 : Int32)), .val (.int (2 : Int32)), .val (.int ((ff (iv.toInt.toNat + 1)) &&& (255 : Int32)))] [])) (fun tgt k => ?_) ?_
                        · show Steps p.tables e below (s₁.setTop (mkF m 290 #[.val (.ref ch), .val (.int xf), .val (.int xt), .val (.int (-1 : Int32)), .val (.int iv), .val (.int ((ff iv.toInt.toNat) &&& (255 : Int32))), .val (.int (4 : Int32)), .val (.int lo), .val (.int hi), .val (.int (0 : Int32)), .val (.int (2 : Int32)), .val (.int ((ff (iv.toInt.toNat + 1)) &&& (255 : Int32)))] [])) tgt
                          refine XS.goto X0.here hx rfl (pc0 := 290) (pc' := 211) rfl (hb hby d1_290) (by decide) (by decide) ?_
                          show Steps p.tables e below (s₁.setTop (mkF m 211 #[.val (.ref ch), .val (.int xf), .val (.int xt), .val (.int (-1 : Int32)), .val (.int iv), .val (.int ((ff iv.toInt.toNat) &&& (255 : Int32))), .val (.int (4 : Int32)), .val (.int lo), .val (.int hi), .val (.int (0 : Int32)), .val (.int (2 : Int32)), .val (.int ((ff (iv.toInt.toNat + 1)) &&& (255 : Int32)))] [])) tgt
                          refine XS.iload X0.here hx rfl (hb hby d1_211) rfl ?_
                          show Steps p.tables e below (s₁.setTop (mkF m 213 #[.val (.ref ch), .val (.int xf), .val (.int xt), .val (.int (-1 : Int32)), .val (.int iv), .val (.int ((ff iv.toInt.toNat) &&& (255 : Int32))), .val (.int (4 : Int32)), .val (.int lo), .val (.int hi), .val (.int (0 : Int32)), .val (.int (2 : Int32)), .val (.int ((ff (iv.toInt.toNat + 1)) &&& (255 : Int32)))] [(.int (0 : Int32))])) tgt
                          refine XS.ifYes X0.here hx rfl (pc0 := 213) (pc' := 293) rfl (hb hby d1_213) rfl ((if0 _ _).trans (teq (by decide : (0 : Int32) = (0 : Int32))).1) (by decide) (by decide) ?_
                          show Steps p.tables e below (s₁.setTop (mkF m 293 #[.val (.ref ch), .val (.int xf), .val (.int xt), .val (.int (-1 : Int32)), .val (.int iv), .val (.int ((ff iv.toInt.toNat) &&& (255 : Int32))), .val (.int (4 : Int32)), .val (.int lo), .val (.int hi), .val (.int (0 : Int32)), .val (.int (2 : Int32)), .val (.int ((ff (iv.toInt.toNat + 1)) &&& (255 : Int32)))] [])) tgt
                          refine XS.iload X0.here hx rfl (hb hby d1_293) rfl ?_
                          show Steps p.tables e below (s₁.setTop (mkF m 295 #[.val (.ref ch), .val (.int xf), .val (.int xt), .val (.int (-1 : Int32)), .val (.int iv), .val (.int ((ff iv.toInt.toNat) &&& (255 : Int32))), .val (.int (4 : Int32)), .val (.int lo), .val (.int hi), .val (.int (0 : Int32)), .val (.int (2 : Int32)), .val (.int ((ff (iv.toInt.toNat + 1)) &&& (255 : Int32)))] [(.int (0 : Int32))])) tgt
                          refine XS.ifYes X0.here hx rfl (pc0 := 295) (pc' := 308) rfl (hb hby d1_295) rfl ((if0 _ _).trans (teq (by decide : (0 : Int32) = (0 : Int32))).1) (by decide) (by decide) ?_
                          show Steps p.tables e below (s₁.setTop (mkF m 308 #[.val (.ref ch), .val (.int xf), .val (.int xt), .val (.int (-1 : Int32)), .val (.int iv), .val (.int ((ff iv.toInt.toNat) &&& (255 : Int32))), .val (.int (4 : Int32)), .val (.int lo), .val (.int hi), .val (.int (0 : Int32)), .val (.int (2 : Int32)), .val (.int ((ff (iv.toInt.toNat + 1)) &&& (255 : Int32)))] [])) tgt
                          refine XS.iload X0.here hx rfl (hb hby d1_308) rfl ?_
                          show Steps p.tables e below (s₁.setTop (mkF m 310 #[.val (.ref ch), .val (.int xf), .val (.int xt), .val (.int (-1 : Int32)), .val (.int iv), .val (.int ((ff iv.toInt.toNat) &&& (255 : Int32))), .val (.int (4 : Int32)), .val (.int lo), .val (.int hi), .val (.int (0 : Int32)), .val (.int (2 : Int32)), .val (.int ((ff (iv.toInt.toNat + 1)) &&& (255 : Int32)))] [(.int iv)])) tgt
                          refine XS.istoreN X0.here hx rfl (hb hby d1_310) rfl (l' := #[.val (.ref ch), .val (.int xf), .val (.int xt), .val (.int iv), .val (.int iv), .val (.int ((ff iv.toInt.toNat) &&& (255 : Int32))), .val (.int (4 : Int32)), .val (.int lo), .val (.int hi), .val (.int (0 : Int32)), .val (.int (2 : Int32)), .val (.int ((ff (iv.toInt.toNat + 1)) &&& (255 : Int32)))]) rfl ?_
                          show Steps p.tables e below (s₁.setTop (mkF m 311 #[.val (.ref ch), .val (.int xf), .val (.int xt), .val (.int iv), .val (.int iv), .val (.int ((ff iv.toInt.toNat) &&& (255 : Int32))), .val (.int (4 : Int32)), .val (.int lo), .val (.int hi), .val (.int (0 : Int32)), .val (.int (2 : Int32)), .val (.int ((ff (iv.toInt.toNat + 1)) &&& (255 : Int32)))] [])) tgt
                          refine XS.goto X0.here hx rfl (pc0 := 311) (pc' := 5) rfl (hb hby d1_311) (by decide) (by decide) ?_
                          exact k
                        refine own_st (V := s₁.setTop (mkF m 315 #[.val (.ref ch), .val (.int xf), .val (.int xt), .val (.int iv), .val (.int iv), .val (.int ((ff iv.toInt.toNat) &&& (255 : Int32))), .val (.int (4 : Int32)), .val (.int lo), .val (.int hi), .val (.int (0 : Int32)), .val (.int (2 : Int32)), .val (.int ((ff (iv.toInt.toNat + 1)) &&& (255 : Int32)))] [(.int iv)])) (fun tgt k => ?_) ?_
                        · show Steps p.tables e below (s₁.setTop (mkF m 5 #[.val (.ref ch), .val (.int xf), .val (.int xt), .val (.int iv), .val (.int iv), .val (.int ((ff iv.toInt.toNat) &&& (255 : Int32))), .val (.int (4 : Int32)), .val (.int lo), .val (.int hi), .val (.int (0 : Int32)), .val (.int (2 : Int32)), .val (.int ((ff (iv.toInt.toNat + 1)) &&& (255 : Int32)))] [])) tgt
                          refine XS.iloadN X0.here hx rfl (hb hby d1_5) rfl ?_
                          show Steps p.tables e below (s₁.setTop (mkF m 6 #[.val (.ref ch), .val (.int xf), .val (.int xt), .val (.int iv), .val (.int iv), .val (.int ((ff iv.toInt.toNat) &&& (255 : Int32))), .val (.int (4 : Int32)), .val (.int lo), .val (.int hi), .val (.int (0 : Int32)), .val (.int (2 : Int32)), .val (.int ((ff (iv.toInt.toNat + 1)) &&& (255 : Int32)))] [(.int iv)])) tgt
                          refine XS.ifYes X0.here hx rfl (pc0 := 6) (pc' := 314) rfl (hb hby d1_6) rfl ((if0 _ _).trans (flt (by rw [own_ilt, show (0 : Int32).toInt = 0 from rfl]; omega)).2.1) (by decide) (by decide) ?_
                          show Steps p.tables e below (s₁.setTop (mkF m 314 #[.val (.ref ch), .val (.int xf), .val (.int xt), .val (.int iv), .val (.int iv), .val (.int ((ff iv.toInt.toNat) &&& (255 : Int32))), .val (.int (4 : Int32)), .val (.int lo), .val (.int hi), .val (.int (0 : Int32)), .val (.int (2 : Int32)), .val (.int ((ff (iv.toInt.toNat + 1)) &&& (255 : Int32)))] [])) tgt
                          refine XS.iloadN X0.here hx rfl (hb hby d1_314) rfl ?_
                          exact k
                        refine own_retI X0 hx hlk Bd.returns (hb hby d1_315) ?_ (by decide) (by decide)
                        show Q1 Z ch xf xt ff fu h0 n0 (some (.int iv)) s₁.heap _
                        rw [e0]
                        refine ⟨?_, N0, rfl⟩
                        exact congrArg (fun q => some (Value.int q)) (by rw [← hE, own_bad hc12 (by unfold own_S own_s4; rw [if_neg hc43, if_neg hc57, if_pos hc65, if_pos hc87, if_neg hc145, ← hlo, ← hhi, if_neg hc198, if_neg hc246, if_pos hc253])])
                      · skip
                        refine own_st (V := s₁.setTop (mkF m 290 #[.val (.ref ch), .val (.int xf), .val (.int xt), .val (.int (-1 : Int32)), .val (.int iv), .val (.int ((ff iv.toInt.toNat) &&& (255 : Int32))), .val (.int (4 : Int32)), .val (.int lo), .val (.int hi), .val (.int (1 : Int32)), .val (.int ((1 : Int32) + (1 : Int32))), .val (.int ((ff (iv.toInt.toNat + 1)) &&& (255 : Int32)))] [])) (fun tgt k => ?_) ?_
                        · show Steps p.tables e below (s₁.setTop (mkF m 253 #[.val (.ref ch), .val (.int xf), .val (.int xt), .val (.int (-1 : Int32)), .val (.int iv), .val (.int ((ff iv.toInt.toNat) &&& (255 : Int32))), .val (.int (4 : Int32)), .val (.int lo), .val (.int hi), .val (.int (1 : Int32)), .val (.int (1 : Int32)), .val (.int ((ff (iv.toInt.toNat + 1)) &&& (255 : Int32)))] [(.int hi), (.int ((ff (iv.toInt.toNat + 1)) &&& (255 : Int32)))])) tgt
                          refine XS.icmpNo X0.here hx rfl (hb hby d1_253) rfl (flt hc253).2.2.1 ?_
                          show Steps p.tables e below (s₁.setTop (mkF m 256 #[.val (.ref ch), .val (.int xf), .val (.int xt), .val (.int (-1 : Int32)), .val (.int iv), .val (.int ((ff iv.toInt.toNat) &&& (255 : Int32))), .val (.int (4 : Int32)), .val (.int lo), .val (.int hi), .val (.int (1 : Int32)), .val (.int (1 : Int32)), .val (.int ((ff (iv.toInt.toNat + 1)) &&& (255 : Int32)))] [])) tgt
                          refine XS.iconst X0.here hx rfl (hb hby d1_256) ?_
                          show Steps p.tables e below (s₁.setTop (mkF m 257 #[.val (.ref ch), .val (.int xf), .val (.int xt), .val (.int (-1 : Int32)), .val (.int iv), .val (.int ((ff iv.toInt.toNat) &&& (255 : Int32))), .val (.int (4 : Int32)), .val (.int lo), .val (.int hi), .val (.int (1 : Int32)), .val (.int (1 : Int32)), .val (.int ((ff (iv.toInt.toNat + 1)) &&& (255 : Int32)))] [(.int (1 : Int32))])) tgt
                          refine XS.goto X0.here hx rfl (pc0 := 257) (pc' := 285) rfl (hb hby d1_257) (by decide) (by decide) ?_
                          show Steps p.tables e below (s₁.setTop (mkF m 285 #[.val (.ref ch), .val (.int xf), .val (.int xt), .val (.int (-1 : Int32)), .val (.int iv), .val (.int ((ff iv.toInt.toNat) &&& (255 : Int32))), .val (.int (4 : Int32)), .val (.int lo), .val (.int hi), .val (.int (1 : Int32)), .val (.int (1 : Int32)), .val (.int ((ff (iv.toInt.toNat + 1)) &&& (255 : Int32)))] [(.int (1 : Int32))])) tgt
                          refine XS.istore X0.here hx rfl (hb hby d1_285) rfl (l' := #[.val (.ref ch), .val (.int xf), .val (.int xt), .val (.int (-1 : Int32)), .val (.int iv), .val (.int ((ff iv.toInt.toNat) &&& (255 : Int32))), .val (.int (4 : Int32)), .val (.int lo), .val (.int hi), .val (.int (1 : Int32)), .val (.int (1 : Int32)), .val (.int ((ff (iv.toInt.toNat + 1)) &&& (255 : Int32)))]) rfl ?_
                          show Steps p.tables e below (s₁.setTop (mkF m 287 #[.val (.ref ch), .val (.int xf), .val (.int xt), .val (.int (-1 : Int32)), .val (.int iv), .val (.int ((ff iv.toInt.toNat) &&& (255 : Int32))), .val (.int (4 : Int32)), .val (.int lo), .val (.int hi), .val (.int (1 : Int32)), .val (.int (1 : Int32)), .val (.int ((ff (iv.toInt.toNat + 1)) &&& (255 : Int32)))] [])) tgt
                          refine XS.iinc X0.here hx rfl (hb hby d1_287) rfl (l' := #[.val (.ref ch), .val (.int xf), .val (.int xt), .val (.int (-1 : Int32)), .val (.int iv), .val (.int ((ff iv.toInt.toNat) &&& (255 : Int32))), .val (.int (4 : Int32)), .val (.int lo), .val (.int hi), .val (.int (1 : Int32)), .val (.int ((1 : Int32) + (1 : Int32))), .val (.int ((ff (iv.toInt.toNat + 1)) &&& (255 : Int32)))]) rfl ?_
                          exact k
                        rw [show ((1 : Int32) + (1 : Int32)) = (2 : Int32) from by decide]
                        refine own_st (V := s₁.setTop (mkF m 269 #[.val (.ref ch), .val (.int xf), .val (.int xt), .val (.int (-1 : Int32)), .val (.int iv), .val (.int ((ff iv.toInt.toNat) &&& (255 : Int32))), .val (.int (4 : Int32)), .val (.int lo), .val (.int hi), .val (.int (1 : Int32)), .val (.int (2 : Int32)), .val (.int ((ff (iv.toInt.toNat + 2)) &&& (255 : Int32)))] [(.int (128 : Int32)), (.int ((ff (iv.toInt.toNat + 2)) &&& (255 : Int32)))])) (fun tgt k => ?_) ?_
                        · show Steps p.tables e below (s₁.setTop (mkF m 290 #[.val (.ref ch), .val (.int xf), .val (.int xt), .val (.int (-1 : Int32)), .val (.int iv), .val (.int ((ff iv.toInt.toNat) &&& (255 : Int32))), .val (.int (4 : Int32)), .val (.int lo), .val (.int hi), .val (.int (1 : Int32)), .val (.int (2 : Int32)), .val (.int ((ff (iv.toInt.toNat + 1)) &&& (255 : Int32)))] [])) tgt
                          refine XS.goto X0.here hx rfl (pc0 := 290) (pc' := 211) rfl (hb hby d1_290) (by decide) (by decide) ?_
                          show Steps p.tables e below (s₁.setTop (mkF m 211 #[.val (.ref ch), .val (.int xf), .val (.int xt), .val (.int (-1 : Int32)), .val (.int iv), .val (.int ((ff iv.toInt.toNat) &&& (255 : Int32))), .val (.int (4 : Int32)), .val (.int lo), .val (.int hi), .val (.int (1 : Int32)), .val (.int (2 : Int32)), .val (.int ((ff (iv.toInt.toNat + 1)) &&& (255 : Int32)))] [])) tgt
                          refine XS.iload X0.here hx rfl (hb hby d1_211) rfl ?_
                          show Steps p.tables e below (s₁.setTop (mkF m 213 #[.val (.ref ch), .val (.int xf), .val (.int xt), .val (.int (-1 : Int32)), .val (.int iv), .val (.int ((ff iv.toInt.toNat) &&& (255 : Int32))), .val (.int (4 : Int32)), .val (.int lo), .val (.int hi), .val (.int (1 : Int32)), .val (.int (2 : Int32)), .val (.int ((ff (iv.toInt.toNat + 1)) &&& (255 : Int32)))] [(.int (1 : Int32))])) tgt
                          refine XS.ifNo X0.here hx rfl (hb hby d1_213) rfl ((if0 _ _).trans (feq (by decide : ¬ ((1 : Int32) = (0 : Int32)))).1) ?_
                          show Steps p.tables e below (s₁.setTop (mkF m 216 #[.val (.ref ch), .val (.int xf), .val (.int xt), .val (.int (-1 : Int32)), .val (.int iv), .val (.int ((ff iv.toInt.toNat) &&& (255 : Int32))), .val (.int (4 : Int32)), .val (.int lo), .val (.int hi), .val (.int (1 : Int32)), .val (.int (2 : Int32)), .val (.int ((ff (iv.toInt.toNat + 1)) &&& (255 : Int32)))] [])) tgt
                          refine XS.iload X0.here hx rfl (hb hby d1_216) rfl ?_
                          show Steps p.tables e below (s₁.setTop (mkF m 218 #[.val (.ref ch), .val (.int xf), .val (.int xt), .val (.int (-1 : Int32)), .val (.int iv), .val (.int ((ff iv.toInt.toNat) &&& (255 : Int32))), .val (.int (4 : Int32)), .val (.int lo), .val (.int hi), .val (.int (1 : Int32)), .val (.int (2 : Int32)), .val (.int ((ff (iv.toInt.toNat + 1)) &&& (255 : Int32)))] [(.int (2 : Int32))])) tgt
                          refine XS.iload X0.here hx rfl (hb hby d1_218) rfl ?_
                          show Steps p.tables e below (s₁.setTop (mkF m 220 #[.val (.ref ch), .val (.int xf), .val (.int xt), .val (.int (-1 : Int32)), .val (.int iv), .val (.int ((ff iv.toInt.toNat) &&& (255 : Int32))), .val (.int (4 : Int32)), .val (.int lo), .val (.int hi), .val (.int (1 : Int32)), .val (.int (2 : Int32)), .val (.int ((ff (iv.toInt.toNat + 1)) &&& (255 : Int32)))] [(.int (4 : Int32)), (.int (2 : Int32))])) tgt
                          refine XS.icmpNo X0.here hx rfl (hb hby d1_220) rfl (tlt (by decide : (2 : Int32) < (4 : Int32))).2.1 ?_
                          show Steps p.tables e below (s₁.setTop (mkF m 223 #[.val (.ref ch), .val (.int xf), .val (.int xt), .val (.int (-1 : Int32)), .val (.int iv), .val (.int ((ff iv.toInt.toNat) &&& (255 : Int32))), .val (.int (4 : Int32)), .val (.int lo), .val (.int hi), .val (.int (1 : Int32)), .val (.int (2 : Int32)), .val (.int ((ff (iv.toInt.toNat + 1)) &&& (255 : Int32)))] [])) tgt
                          refine XS.aloadN X0.here hx rfl (hb hby d1_223) rfl rfl ?_
                          show Steps p.tables e below (s₁.setTop (mkF m 224 #[.val (.ref ch), .val (.int xf), .val (.int xt), .val (.int (-1 : Int32)), .val (.int iv), .val (.int ((ff iv.toInt.toNat) &&& (255 : Int32))), .val (.int (4 : Int32)), .val (.int lo), .val (.int hi), .val (.int (1 : Int32)), .val (.int (2 : Int32)), .val (.int ((ff (iv.toInt.toNat + 1)) &&& (255 : Int32)))] [(.ref ch)])) tgt
                          refine XS.iload X0.here hx rfl (hb hby d1_224) rfl ?_
                          show Steps p.tables e below (s₁.setTop (mkF m 226 #[.val (.ref ch), .val (.int xf), .val (.int xt), .val (.int (-1 : Int32)), .val (.int iv), .val (.int ((ff iv.toInt.toNat) &&& (255 : Int32))), .val (.int (4 : Int32)), .val (.int lo), .val (.int hi), .val (.int (1 : Int32)), .val (.int (2 : Int32)), .val (.int ((ff (iv.toInt.toNat + 1)) &&& (255 : Int32)))] [(.int iv), (.ref ch)])) tgt
                          refine XS.iload X0.here hx rfl (hb hby d1_226) rfl ?_
                          show Steps p.tables e below (s₁.setTop (mkF m 228 #[.val (.ref ch), .val (.int xf), .val (.int xt), .val (.int (-1 : Int32)), .val (.int iv), .val (.int ((ff iv.toInt.toNat) &&& (255 : Int32))), .val (.int (4 : Int32)), .val (.int lo), .val (.int hi), .val (.int (1 : Int32)), .val (.int (2 : Int32)), .val (.int ((ff (iv.toInt.toNat + 1)) &&& (255 : Int32)))] [(.int (2 : Int32)), (.int iv), (.ref ch)])) tgt
                          refine XS.iadd X0.here hx rfl (hb hby d1_228) rfl ?_
                          show Steps p.tables e below (s₁.setTop (mkF m 229 #[.val (.ref ch), .val (.int xf), .val (.int xt), .val (.int (-1 : Int32)), .val (.int iv), .val (.int ((ff iv.toInt.toNat) &&& (255 : Int32))), .val (.int (4 : Int32)), .val (.int lo), .val (.int hi), .val (.int (1 : Int32)), .val (.int (2 : Int32)), .val (.int ((ff (iv.toInt.toNat + 1)) &&& (255 : Int32)))] [(.int (iv + (2 : Int32))), (.ref ch)])) tgt
                          refine own_baload X0 hx hZ e0 A1 (j := (iv + (2 : Int32))) (k := (iv.toInt.toNat + 2)) a2 (by rw [own_ilt] at hc12; have := hfit; omega) (g := (mkF m 229 #[.val (.ref ch), .val (.int xf), .val (.int xt), .val (.int (-1 : Int32)), .val (.int iv), .val (.int ((ff iv.toInt.toNat) &&& (255 : Int32))), .val (.int (4 : Int32)), .val (.int lo), .val (.int hi), .val (.int (1 : Int32)), .val (.int (2 : Int32)), .val (.int ((ff (iv.toInt.toNat + 1)) &&& (255 : Int32)))] [(.int (iv + (2 : Int32))), (.ref ch)])) rfl rfl (hb hby d1_229) ?_
                          show Steps p.tables e below (s₁.setTop (mkF m 230 #[.val (.ref ch), .val (.int xf), .val (.int xt), .val (.int (-1 : Int32)), .val (.int iv), .val (.int ((ff iv.toInt.toNat) &&& (255 : Int32))), .val (.int (4 : Int32)), .val (.int lo), .val (.int hi), .val (.int (1 : Int32)), .val (.int (2 : Int32)), .val (.int ((ff (iv.toInt.toNat + 1)) &&& (255 : Int32)))] [(.int (ff (iv.toInt.toNat + 2)))])) tgt
                          refine XS.sipush X0.here hx rfl (hb hby d1_230) ?_
                          show Steps p.tables e below (s₁.setTop (mkF m 233 #[.val (.ref ch), .val (.int xf), .val (.int xt), .val (.int (-1 : Int32)), .val (.int iv), .val (.int ((ff iv.toInt.toNat) &&& (255 : Int32))), .val (.int (4 : Int32)), .val (.int lo), .val (.int hi), .val (.int (1 : Int32)), .val (.int (2 : Int32)), .val (.int ((ff (iv.toInt.toNat + 1)) &&& (255 : Int32)))] [(.int (255 : Int32)), (.int (ff (iv.toInt.toNat + 2)))])) tgt
                          refine XS.iand X0.here hx rfl (hb hby d1_233) rfl ?_
                          show Steps p.tables e below (s₁.setTop (mkF m 234 #[.val (.ref ch), .val (.int xf), .val (.int xt), .val (.int (-1 : Int32)), .val (.int iv), .val (.int ((ff iv.toInt.toNat) &&& (255 : Int32))), .val (.int (4 : Int32)), .val (.int lo), .val (.int hi), .val (.int (1 : Int32)), .val (.int (2 : Int32)), .val (.int ((ff (iv.toInt.toNat + 1)) &&& (255 : Int32)))] [(.int ((ff (iv.toInt.toNat + 2)) &&& (255 : Int32)))])) tgt
                          refine XS.istore X0.here hx rfl (hb hby d1_234) rfl (l' := #[.val (.ref ch), .val (.int xf), .val (.int xt), .val (.int (-1 : Int32)), .val (.int iv), .val (.int ((ff iv.toInt.toNat) &&& (255 : Int32))), .val (.int (4 : Int32)), .val (.int lo), .val (.int hi), .val (.int (1 : Int32)), .val (.int (2 : Int32)), .val (.int ((ff (iv.toInt.toNat + 2)) &&& (255 : Int32)))]) rfl ?_
                          show Steps p.tables e below (s₁.setTop (mkF m 236 #[.val (.ref ch), .val (.int xf), .val (.int xt), .val (.int (-1 : Int32)), .val (.int iv), .val (.int ((ff iv.toInt.toNat) &&& (255 : Int32))), .val (.int (4 : Int32)), .val (.int lo), .val (.int hi), .val (.int (1 : Int32)), .val (.int (2 : Int32)), .val (.int ((ff (iv.toInt.toNat + 2)) &&& (255 : Int32)))] [])) tgt
                          refine XS.iload X0.here hx rfl (hb hby d1_236) rfl ?_
                          show Steps p.tables e below (s₁.setTop (mkF m 238 #[.val (.ref ch), .val (.int xf), .val (.int xt), .val (.int (-1 : Int32)), .val (.int iv), .val (.int ((ff iv.toInt.toNat) &&& (255 : Int32))), .val (.int (4 : Int32)), .val (.int lo), .val (.int hi), .val (.int (1 : Int32)), .val (.int (2 : Int32)), .val (.int ((ff (iv.toInt.toNat + 2)) &&& (255 : Int32)))] [(.int (2 : Int32))])) tgt
                          refine XS.iconst X0.here hx rfl (hb hby d1_238) ?_
                          show Steps p.tables e below (s₁.setTop (mkF m 239 #[.val (.ref ch), .val (.int xf), .val (.int xt), .val (.int (-1 : Int32)), .val (.int iv), .val (.int ((ff iv.toInt.toNat) &&& (255 : Int32))), .val (.int (4 : Int32)), .val (.int lo), .val (.int hi), .val (.int (1 : Int32)), .val (.int (2 : Int32)), .val (.int ((ff (iv.toInt.toNat + 2)) &&& (255 : Int32)))] [(.int (1 : Int32)), (.int (2 : Int32))])) tgt
                          refine XS.icmpYes X0.here hx rfl (pc0 := 239) (pc' := 264) rfl (hb hby d1_239) rfl (feq (by decide : ¬ ((2 : Int32) = (1 : Int32)))).2 (by decide) (by decide) ?_
                          show Steps p.tables e below (s₁.setTop (mkF m 264 #[.val (.ref ch), .val (.int xf), .val (.int xt), .val (.int (-1 : Int32)), .val (.int iv), .val (.int ((ff iv.toInt.toNat) &&& (255 : Int32))), .val (.int (4 : Int32)), .val (.int lo), .val (.int hi), .val (.int (1 : Int32)), .val (.int (2 : Int32)), .val (.int ((ff (iv.toInt.toNat + 2)) &&& (255 : Int32)))] [])) tgt
                          refine XS.iload X0.here hx rfl (hb hby d1_264) rfl ?_
                          show Steps p.tables e below (s₁.setTop (mkF m 266 #[.val (.ref ch), .val (.int xf), .val (.int xt), .val (.int (-1 : Int32)), .val (.int iv), .val (.int ((ff iv.toInt.toNat) &&& (255 : Int32))), .val (.int (4 : Int32)), .val (.int lo), .val (.int hi), .val (.int (1 : Int32)), .val (.int (2 : Int32)), .val (.int ((ff (iv.toInt.toNat + 2)) &&& (255 : Int32)))] [(.int ((ff (iv.toInt.toNat + 2)) &&& (255 : Int32)))])) tgt
                          refine XS.sipush X0.here hx rfl (hb hby d1_266) ?_
                          exact k
                        by_cases hc269 : ((ff (iv.toInt.toNat + 2)) &&& (255 : Int32)) < (128 : Int32)
                        · skip
                          refine own_st (V := s₁.setTop (mkF m 290 #[.val (.ref ch), .val (.int xf), .val (.int xt), .val (.int (-1 : Int32)), .val (.int iv), .val (.int ((ff iv.toInt.toNat) &&& (255 : Int32))), .val (.int (4 : Int32)), .val (.int lo), .val (.int hi), .val (.int (0 : Int32)), .val (.int ((2 : Int32) + (1 : Int32))), .val (.int ((ff (iv.toInt.toNat + 2)) &&& (255 : Int32)))] [])) (fun tgt k => ?_) ?_
                          · show Steps p.tables e below (s₁.setTop (mkF m 269 #[.val (.ref ch), .val (.int xf), .val (.int xt), .val (.int (-1 : Int32)), .val (.int iv), .val (.int ((ff iv.toInt.toNat) &&& (255 : Int32))), .val (.int (4 : Int32)), .val (.int lo), .val (.int hi), .val (.int (1 : Int32)), .val (.int (2 : Int32)), .val (.int ((ff (iv.toInt.toNat + 2)) &&& (255 : Int32)))] [(.int (128 : Int32)), (.int ((ff (iv.toInt.toNat + 2)) &&& (255 : Int32)))])) tgt
                            refine XS.icmpYes X0.here hx rfl (pc0 := 269) (pc' := 284) rfl (hb hby d1_269) rfl (tlt hc269).1 (by decide) (by decide) ?_
                            show Steps p.tables e below (s₁.setTop (mkF m 284 #[.val (.ref ch), .val (.int xf), .val (.int xt), .val (.int (-1 : Int32)), .val (.int iv), .val (.int ((ff iv.toInt.toNat) &&& (255 : Int32))), .val (.int (4 : Int32)), .val (.int lo), .val (.int hi), .val (.int (1 : Int32)), .val (.int (2 : Int32)), .val (.int ((ff (iv.toInt.toNat + 2)) &&& (255 : Int32)))] [])) tgt
                            refine XS.iconst X0.here hx rfl (hb hby d1_284) ?_
                            show Steps p.tables e below (s₁.setTop (mkF m 285 #[.val (.ref ch), .val (.int xf), .val (.int xt), .val (.int (-1 : Int32)), .val (.int iv), .val (.int ((ff iv.toInt.toNat) &&& (255 : Int32))), .val (.int (4 : Int32)), .val (.int lo), .val (.int hi), .val (.int (1 : Int32)), .val (.int (2 : Int32)), .val (.int ((ff (iv.toInt.toNat + 2)) &&& (255 : Int32)))] [(.int (0 : Int32))])) tgt
                            refine XS.istore X0.here hx rfl (hb hby d1_285) rfl (l' := #[.val (.ref ch), .val (.int xf), .val (.int xt), .val (.int (-1 : Int32)), .val (.int iv), .val (.int ((ff iv.toInt.toNat) &&& (255 : Int32))), .val (.int (4 : Int32)), .val (.int lo), .val (.int hi), .val (.int (0 : Int32)), .val (.int (2 : Int32)), .val (.int ((ff (iv.toInt.toNat + 2)) &&& (255 : Int32)))]) rfl ?_
                            show Steps p.tables e below (s₁.setTop (mkF m 287 #[.val (.ref ch), .val (.int xf), .val (.int xt), .val (.int (-1 : Int32)), .val (.int iv), .val (.int ((ff iv.toInt.toNat) &&& (255 : Int32))), .val (.int (4 : Int32)), .val (.int lo), .val (.int hi), .val (.int (0 : Int32)), .val (.int (2 : Int32)), .val (.int ((ff (iv.toInt.toNat + 2)) &&& (255 : Int32)))] [])) tgt
                            refine XS.iinc X0.here hx rfl (hb hby d1_287) rfl (l' := #[.val (.ref ch), .val (.int xf), .val (.int xt), .val (.int (-1 : Int32)), .val (.int iv), .val (.int ((ff iv.toInt.toNat) &&& (255 : Int32))), .val (.int (4 : Int32)), .val (.int lo), .val (.int hi), .val (.int (0 : Int32)), .val (.int ((2 : Int32) + (1 : Int32))), .val (.int ((ff (iv.toInt.toNat + 2)) &&& (255 : Int32)))]) rfl ?_
                            exact k
                          rw [show ((2 : Int32) + (1 : Int32)) = (3 : Int32) from by decide]
                          refine own_st (V := s₁.setTop (mkF m 5 #[.val (.ref ch), .val (.int xf), .val (.int xt), .val (.int iv), .val (.int iv), .val (.int ((ff iv.toInt.toNat) &&& (255 : Int32))), .val (.int (4 : Int32)), .val (.int lo), .val (.int hi), .val (.int (0 : Int32)), .val (.int (3 : Int32)), .val (.int ((ff (iv.toInt.toNat + 2)) &&& (255 : Int32)))] [])) (fun tgt k => ?_) ?_
                          · show Steps p.tables e below (s₁.setTop (mkF m 290 #[.val (.ref ch), .val (.int xf), .val (.int xt), .val (.int (-1 : Int32)), .val (.int iv), .val (.int ((ff iv.toInt.toNat) &&& (255 : Int32))), .val (.int (4 : Int32)), .val (.int lo), .val (.int hi), .val (.int (0 : Int32)), .val (.int (3 : Int32)), .val (.int ((ff (iv.toInt.toNat + 2)) &&& (255 : Int32)))] [])) tgt
                            refine XS.goto X0.here hx rfl (pc0 := 290) (pc' := 211) rfl (hb hby d1_290) (by decide) (by decide) ?_
                            show Steps p.tables e below (s₁.setTop (mkF m 211 #[.val (.ref ch), .val (.int xf), .val (.int xt), .val (.int (-1 : Int32)), .val (.int iv), .val (.int ((ff iv.toInt.toNat) &&& (255 : Int32))), .val (.int (4 : Int32)), .val (.int lo), .val (.int hi), .val (.int (0 : Int32)), .val (.int (3 : Int32)), .val (.int ((ff (iv.toInt.toNat + 2)) &&& (255 : Int32)))] [])) tgt
                            refine XS.iload X0.here hx rfl (hb hby d1_211) rfl ?_
                            show Steps p.tables e below (s₁.setTop (mkF m 213 #[.val (.ref ch), .val (.int xf), .val (.int xt), .val (.int (-1 : Int32)), .val (.int iv), .val (.int ((ff iv.toInt.toNat) &&& (255 : Int32))), .val (.int (4 : Int32)), .val (.int lo), .val (.int hi), .val (.int (0 : Int32)), .val (.int (3 : Int32)), .val (.int ((ff (iv.toInt.toNat + 2)) &&& (255 : Int32)))] [(.int (0 : Int32))])) tgt
                            refine XS.ifYes X0.here hx rfl (pc0 := 213) (pc' := 293) rfl (hb hby d1_213) rfl ((if0 _ _).trans (teq (by decide : (0 : Int32) = (0 : Int32))).1) (by decide) (by decide) ?_
                            show Steps p.tables e below (s₁.setTop (mkF m 293 #[.val (.ref ch), .val (.int xf), .val (.int xt), .val (.int (-1 : Int32)), .val (.int iv), .val (.int ((ff iv.toInt.toNat) &&& (255 : Int32))), .val (.int (4 : Int32)), .val (.int lo), .val (.int hi), .val (.int (0 : Int32)), .val (.int (3 : Int32)), .val (.int ((ff (iv.toInt.toNat + 2)) &&& (255 : Int32)))] [])) tgt
                            refine XS.iload X0.here hx rfl (hb hby d1_293) rfl ?_
                            show Steps p.tables e below (s₁.setTop (mkF m 295 #[.val (.ref ch), .val (.int xf), .val (.int xt), .val (.int (-1 : Int32)), .val (.int iv), .val (.int ((ff iv.toInt.toNat) &&& (255 : Int32))), .val (.int (4 : Int32)), .val (.int lo), .val (.int hi), .val (.int (0 : Int32)), .val (.int (3 : Int32)), .val (.int ((ff (iv.toInt.toNat + 2)) &&& (255 : Int32)))] [(.int (0 : Int32))])) tgt
                            refine XS.ifYes X0.here hx rfl (pc0 := 295) (pc' := 308) rfl (hb hby d1_295) rfl ((if0 _ _).trans (teq (by decide : (0 : Int32) = (0 : Int32))).1) (by decide) (by decide) ?_
                            show Steps p.tables e below (s₁.setTop (mkF m 308 #[.val (.ref ch), .val (.int xf), .val (.int xt), .val (.int (-1 : Int32)), .val (.int iv), .val (.int ((ff iv.toInt.toNat) &&& (255 : Int32))), .val (.int (4 : Int32)), .val (.int lo), .val (.int hi), .val (.int (0 : Int32)), .val (.int (3 : Int32)), .val (.int ((ff (iv.toInt.toNat + 2)) &&& (255 : Int32)))] [])) tgt
                            refine XS.iload X0.here hx rfl (hb hby d1_308) rfl ?_
                            show Steps p.tables e below (s₁.setTop (mkF m 310 #[.val (.ref ch), .val (.int xf), .val (.int xt), .val (.int (-1 : Int32)), .val (.int iv), .val (.int ((ff iv.toInt.toNat) &&& (255 : Int32))), .val (.int (4 : Int32)), .val (.int lo), .val (.int hi), .val (.int (0 : Int32)), .val (.int (3 : Int32)), .val (.int ((ff (iv.toInt.toNat + 2)) &&& (255 : Int32)))] [(.int iv)])) tgt
                            refine XS.istoreN X0.here hx rfl (hb hby d1_310) rfl (l' := #[.val (.ref ch), .val (.int xf), .val (.int xt), .val (.int iv), .val (.int iv), .val (.int ((ff iv.toInt.toNat) &&& (255 : Int32))), .val (.int (4 : Int32)), .val (.int lo), .val (.int hi), .val (.int (0 : Int32)), .val (.int (3 : Int32)), .val (.int ((ff (iv.toInt.toNat + 2)) &&& (255 : Int32)))]) rfl ?_
                            show Steps p.tables e below (s₁.setTop (mkF m 311 #[.val (.ref ch), .val (.int xf), .val (.int xt), .val (.int iv), .val (.int iv), .val (.int ((ff iv.toInt.toNat) &&& (255 : Int32))), .val (.int (4 : Int32)), .val (.int lo), .val (.int hi), .val (.int (0 : Int32)), .val (.int (3 : Int32)), .val (.int ((ff (iv.toInt.toNat + 2)) &&& (255 : Int32)))] [])) tgt
                            refine XS.goto X0.here hx rfl (pc0 := 311) (pc' := 5) rfl (hb hby d1_311) (by decide) (by decide) ?_
                            exact k
                          refine own_st (V := s₁.setTop (mkF m 315 #[.val (.ref ch), .val (.int xf), .val (.int xt), .val (.int iv), .val (.int iv), .val (.int ((ff iv.toInt.toNat) &&& (255 : Int32))), .val (.int (4 : Int32)), .val (.int lo), .val (.int hi), .val (.int (0 : Int32)), .val (.int (3 : Int32)), .val (.int ((ff (iv.toInt.toNat + 2)) &&& (255 : Int32)))] [(.int iv)])) (fun tgt k => ?_) ?_
                          · show Steps p.tables e below (s₁.setTop (mkF m 5 #[.val (.ref ch), .val (.int xf), .val (.int xt), .val (.int iv), .val (.int iv), .val (.int ((ff iv.toInt.toNat) &&& (255 : Int32))), .val (.int (4 : Int32)), .val (.int lo), .val (.int hi), .val (.int (0 : Int32)), .val (.int (3 : Int32)), .val (.int ((ff (iv.toInt.toNat + 2)) &&& (255 : Int32)))] [])) tgt
                            refine XS.iloadN X0.here hx rfl (hb hby d1_5) rfl ?_
                            show Steps p.tables e below (s₁.setTop (mkF m 6 #[.val (.ref ch), .val (.int xf), .val (.int xt), .val (.int iv), .val (.int iv), .val (.int ((ff iv.toInt.toNat) &&& (255 : Int32))), .val (.int (4 : Int32)), .val (.int lo), .val (.int hi), .val (.int (0 : Int32)), .val (.int (3 : Int32)), .val (.int ((ff (iv.toInt.toNat + 2)) &&& (255 : Int32)))] [(.int iv)])) tgt
                            refine XS.ifYes X0.here hx rfl (pc0 := 6) (pc' := 314) rfl (hb hby d1_6) rfl ((if0 _ _).trans (flt (by rw [own_ilt, show (0 : Int32).toInt = 0 from rfl]; omega)).2.1) (by decide) (by decide) ?_
                            show Steps p.tables e below (s₁.setTop (mkF m 314 #[.val (.ref ch), .val (.int xf), .val (.int xt), .val (.int iv), .val (.int iv), .val (.int ((ff iv.toInt.toNat) &&& (255 : Int32))), .val (.int (4 : Int32)), .val (.int lo), .val (.int hi), .val (.int (0 : Int32)), .val (.int (3 : Int32)), .val (.int ((ff (iv.toInt.toNat + 2)) &&& (255 : Int32)))] [])) tgt
                            refine XS.iloadN X0.here hx rfl (hb hby d1_314) rfl ?_
                            exact k
                          refine own_retI X0 hx hlk Bd.returns (hb hby d1_315) ?_ (by decide) (by decide)
                          show Q1 Z ch xf xt ff fu h0 n0 (some (.int iv)) s₁.heap _
                          rw [e0]
                          refine ⟨?_, N0, rfl⟩
                          exact congrArg (fun q => some (Value.int q)) (by rw [← hE, own_bad hc12 (by unfold own_S own_s4; rw [if_neg hc43, if_neg hc57, if_pos hc65, if_pos hc87, if_neg hc145, ← hlo, ← hhi, if_neg hc198, if_neg hc246, if_neg hc253, if_pos hc269])])
                        · skip
                          refine own_st (V := s₁.setTop (mkF m 277 #[.val (.ref ch), .val (.int xf), .val (.int xt), .val (.int (-1 : Int32)), .val (.int iv), .val (.int ((ff iv.toInt.toNat) &&& (255 : Int32))), .val (.int (4 : Int32)), .val (.int lo), .val (.int hi), .val (.int (1 : Int32)), .val (.int (2 : Int32)), .val (.int ((ff (iv.toInt.toNat + 2)) &&& (255 : Int32)))] [(.int (191 : Int32)), (.int ((ff (iv.toInt.toNat + 2)) &&& (255 : Int32)))])) (fun tgt k => ?_) ?_
                          · show Steps p.tables e below (s₁.setTop (mkF m 269 #[.val (.ref ch), .val (.int xf), .val (.int xt), .val (.int (-1 : Int32)), .val (.int iv), .val (.int ((ff iv.toInt.toNat) &&& (255 : Int32))), .val (.int (4 : Int32)), .val (.int lo), .val (.int hi), .val (.int (1 : Int32)), .val (.int (2 : Int32)), .val (.int ((ff (iv.toInt.toNat + 2)) &&& (255 : Int32)))] [(.int (128 : Int32)), (.int ((ff (iv.toInt.toNat + 2)) &&& (255 : Int32)))])) tgt
                            refine XS.icmpNo X0.here hx rfl (hb hby d1_269) rfl (flt hc269).1 ?_
                            show Steps p.tables e below (s₁.setTop (mkF m 272 #[.val (.ref ch), .val (.int xf), .val (.int xt), .val (.int (-1 : Int32)), .val (.int iv), .val (.int ((ff iv.toInt.toNat) &&& (255 : Int32))), .val (.int (4 : Int32)), .val (.int lo), .val (.int hi), .val (.int (1 : Int32)), .val (.int (2 : Int32)), .val (.int ((ff (iv.toInt.toNat + 2)) &&& (255 : Int32)))] [])) tgt
                            refine XS.iload X0.here hx rfl (hb hby d1_272) rfl ?_
                            show Steps p.tables e below (s₁.setTop (mkF m 274 #[.val (.ref ch), .val (.int xf), .val (.int xt), .val (.int (-1 : Int32)), .val (.int iv), .val (.int ((ff iv.toInt.toNat) &&& (255 : Int32))), .val (.int (4 : Int32)), .val (.int lo), .val (.int hi), .val (.int (1 : Int32)), .val (.int (2 : Int32)), .val (.int ((ff (iv.toInt.toNat + 2)) &&& (255 : Int32)))] [(.int ((ff (iv.toInt.toNat + 2)) &&& (255 : Int32)))])) tgt
                            refine XS.sipush X0.here hx rfl (hb hby d1_274) ?_
                            exact k
                          by_cases hc277 : (191 : Int32) < ((ff (iv.toInt.toNat + 2)) &&& (255 : Int32))
                          · skip
                            refine own_st (V := s₁.setTop (mkF m 290 #[.val (.ref ch), .val (.int xf), .val (.int xt), .val (.int (-1 : Int32)), .val (.int iv), .val (.int ((ff iv.toInt.toNat) &&& (255 : Int32))), .val (.int (4 : Int32)), .val (.int lo), .val (.int hi), .val (.int (0 : Int32)), .val (.int ((2 : Int32) + (1 : Int32))), .val (.int ((ff (iv.toInt.toNat + 2)) &&& (255 : Int32)))] [])) (fun tgt k => ?_) ?_
                            · show Steps p.tables e below (s₁.setTop (mkF m 277 #[.val (.ref ch), .val (.int xf), .val (.int xt), .val (.int (-1 : Int32)), .val (.int iv), .val (.int ((ff iv.toInt.toNat) &&& (255 : Int32))), .val (.int (4 : Int32)), .val (.int lo), .val (.int hi), .val (.int (1 : Int32)), .val (.int (2 : Int32)), .val (.int ((ff (iv.toInt.toNat + 2)) &&& (255 : Int32)))] [(.int (191 : Int32)), (.int ((ff (iv.toInt.toNat + 2)) &&& (255 : Int32)))])) tgt
                              refine XS.icmpYes X0.here hx rfl (pc0 := 277) (pc' := 284) rfl (hb hby d1_277) rfl (tlt hc277).2.2.1 (by decide) (by decide) ?_
                              show Steps p.tables e below (s₁.setTop (mkF m 284 #[.val (.ref ch), .val (.int xf), .val (.int xt), .val (.int (-1 : Int32)), .val (.int iv), .val (.int ((ff iv.toInt.toNat) &&& (255 : Int32))), .val (.int (4 : Int32)), .val (.int lo), .val (.int hi), .val (.int (1 : Int32)), .val (.int (2 : Int32)), .val (.int ((ff (iv.toInt.toNat + 2)) &&& (255 : Int32)))] [])) tgt
                              refine XS.iconst X0.here hx rfl (hb hby d1_284) ?_
                              show Steps p.tables e below (s₁.setTop (mkF m 285 #[.val (.ref ch), .val (.int xf), .val (.int xt), .val (.int (-1 : Int32)), .val (.int iv), .val (.int ((ff iv.toInt.toNat) &&& (255 : Int32))), .val (.int (4 : Int32)), .val (.int lo), .val (.int hi), .val (.int (1 : Int32)), .val (.int (2 : Int32)), .val (.int ((ff (iv.toInt.toNat + 2)) &&& (255 : Int32)))] [(.int (0 : Int32))])) tgt
                              refine XS.istore X0.here hx rfl (hb hby d1_285) rfl (l' := #[.val (.ref ch), .val (.int xf), .val (.int xt), .val (.int (-1 : Int32)), .val (.int iv), .val (.int ((ff iv.toInt.toNat) &&& (255 : Int32))), .val (.int (4 : Int32)), .val (.int lo), .val (.int hi), .val (.int (0 : Int32)), .val (.int (2 : Int32)), .val (.int ((ff (iv.toInt.toNat + 2)) &&& (255 : Int32)))]) rfl ?_
                              show Steps p.tables e below (s₁.setTop (mkF m 287 #[.val (.ref ch), .val (.int xf), .val (.int xt), .val (.int (-1 : Int32)), .val (.int iv), .val (.int ((ff iv.toInt.toNat) &&& (255 : Int32))), .val (.int (4 : Int32)), .val (.int lo), .val (.int hi), .val (.int (0 : Int32)), .val (.int (2 : Int32)), .val (.int ((ff (iv.toInt.toNat + 2)) &&& (255 : Int32)))] [])) tgt
                              refine XS.iinc X0.here hx rfl (hb hby d1_287) rfl (l' := #[.val (.ref ch), .val (.int xf), .val (.int xt), .val (.int (-1 : Int32)), .val (.int iv), .val (.int ((ff iv.toInt.toNat) &&& (255 : Int32))), .val (.int (4 : Int32)), .val (.int lo), .val (.int hi), .val (.int (0 : Int32)), .val (.int ((2 : Int32) + (1 : Int32))), .val (.int ((ff (iv.toInt.toNat + 2)) &&& (255 : Int32)))]) rfl ?_
                              exact k
                            rw [show ((2 : Int32) + (1 : Int32)) = (3 : Int32) from by decide]
                            refine own_st (V := s₁.setTop (mkF m 5 #[.val (.ref ch), .val (.int xf), .val (.int xt), .val (.int iv), .val (.int iv), .val (.int ((ff iv.toInt.toNat) &&& (255 : Int32))), .val (.int (4 : Int32)), .val (.int lo), .val (.int hi), .val (.int (0 : Int32)), .val (.int (3 : Int32)), .val (.int ((ff (iv.toInt.toNat + 2)) &&& (255 : Int32)))] [])) (fun tgt k => ?_) ?_
                            · show Steps p.tables e below (s₁.setTop (mkF m 290 #[.val (.ref ch), .val (.int xf), .val (.int xt), .val (.int (-1 : Int32)), .val (.int iv), .val (.int ((ff iv.toInt.toNat) &&& (255 : Int32))), .val (.int (4 : Int32)), .val (.int lo), .val (.int hi), .val (.int (0 : Int32)), .val (.int (3 : Int32)), .val (.int ((ff (iv.toInt.toNat + 2)) &&& (255 : Int32)))] [])) tgt
                              refine XS.goto X0.here hx rfl (pc0 := 290) (pc' := 211) rfl (hb hby d1_290) (by decide) (by decide) ?_
                              show Steps p.tables e below (s₁.setTop (mkF m 211 #[.val (.ref ch), .val (.int xf), .val (.int xt), .val (.int (-1 : Int32)), .val (.int iv), .val (.int ((ff iv.toInt.toNat) &&& (255 : Int32))), .val (.int (4 : Int32)), .val (.int lo), .val (.int hi), .val (.int (0 : Int32)), .val (.int (3 : Int32)), .val (.int ((ff (iv.toInt.toNat + 2)) &&& (255 : Int32)))] [])) tgt
                              refine XS.iload X0.here hx rfl (hb hby d1_211) rfl ?_
                              show Steps p.tables e below (s₁.setTop (mkF m 213 #[.val (.ref ch), .val (.int xf), .val (.int xt), .val (.int (-1 : Int32)), .val (.int iv), .val (.int ((ff iv.toInt.toNat) &&& (255 : Int32))), .val (.int (4 : Int32)), .val (.int lo), .val (.int hi), .val (.int (0 : Int32)), .val (.int (3 : Int32)), .val (.int ((ff (iv.toInt.toNat + 2)) &&& (255 : Int32)))] [(.int (0 : Int32))])) tgt
                              refine XS.ifYes X0.here hx rfl (pc0 := 213) (pc' := 293) rfl (hb hby d1_213) rfl ((if0 _ _).trans (teq (by decide : (0 : Int32) = (0 : Int32))).1) (by decide) (by decide) ?_
                              show Steps p.tables e below (s₁.setTop (mkF m 293 #[.val (.ref ch), .val (.int xf), .val (.int xt), .val (.int (-1 : Int32)), .val (.int iv), .val (.int ((ff iv.toInt.toNat) &&& (255 : Int32))), .val (.int (4 : Int32)), .val (.int lo), .val (.int hi), .val (.int (0 : Int32)), .val (.int (3 : Int32)), .val (.int ((ff (iv.toInt.toNat + 2)) &&& (255 : Int32)))] [])) tgt
                              refine XS.iload X0.here hx rfl (hb hby d1_293) rfl ?_
                              show Steps p.tables e below (s₁.setTop (mkF m 295 #[.val (.ref ch), .val (.int xf), .val (.int xt), .val (.int (-1 : Int32)), .val (.int iv), .val (.int ((ff iv.toInt.toNat) &&& (255 : Int32))), .val (.int (4 : Int32)), .val (.int lo), .val (.int hi), .val (.int (0 : Int32)), .val (.int (3 : Int32)), .val (.int ((ff (iv.toInt.toNat + 2)) &&& (255 : Int32)))] [(.int (0 : Int32))])) tgt
                              refine XS.ifYes X0.here hx rfl (pc0 := 295) (pc' := 308) rfl (hb hby d1_295) rfl ((if0 _ _).trans (teq (by decide : (0 : Int32) = (0 : Int32))).1) (by decide) (by decide) ?_
                              show Steps p.tables e below (s₁.setTop (mkF m 308 #[.val (.ref ch), .val (.int xf), .val (.int xt), .val (.int (-1 : Int32)), .val (.int iv), .val (.int ((ff iv.toInt.toNat) &&& (255 : Int32))), .val (.int (4 : Int32)), .val (.int lo), .val (.int hi), .val (.int (0 : Int32)), .val (.int (3 : Int32)), .val (.int ((ff (iv.toInt.toNat + 2)) &&& (255 : Int32)))] [])) tgt
                              refine XS.iload X0.here hx rfl (hb hby d1_308) rfl ?_
                              show Steps p.tables e below (s₁.setTop (mkF m 310 #[.val (.ref ch), .val (.int xf), .val (.int xt), .val (.int (-1 : Int32)), .val (.int iv), .val (.int ((ff iv.toInt.toNat) &&& (255 : Int32))), .val (.int (4 : Int32)), .val (.int lo), .val (.int hi), .val (.int (0 : Int32)), .val (.int (3 : Int32)), .val (.int ((ff (iv.toInt.toNat + 2)) &&& (255 : Int32)))] [(.int iv)])) tgt
                              refine XS.istoreN X0.here hx rfl (hb hby d1_310) rfl (l' := #[.val (.ref ch), .val (.int xf), .val (.int xt), .val (.int iv), .val (.int iv), .val (.int ((ff iv.toInt.toNat) &&& (255 : Int32))), .val (.int (4 : Int32)), .val (.int lo), .val (.int hi), .val (.int (0 : Int32)), .val (.int (3 : Int32)), .val (.int ((ff (iv.toInt.toNat + 2)) &&& (255 : Int32)))]) rfl ?_
                              show Steps p.tables e below (s₁.setTop (mkF m 311 #[.val (.ref ch), .val (.int xf), .val (.int xt), .val (.int iv), .val (.int iv), .val (.int ((ff iv.toInt.toNat) &&& (255 : Int32))), .val (.int (4 : Int32)), .val (.int lo), .val (.int hi), .val (.int (0 : Int32)), .val (.int (3 : Int32)), .val (.int ((ff (iv.toInt.toNat + 2)) &&& (255 : Int32)))] [])) tgt
                              refine XS.goto X0.here hx rfl (pc0 := 311) (pc' := 5) rfl (hb hby d1_311) (by decide) (by decide) ?_
                              exact k
                            refine own_st (V := s₁.setTop (mkF m 315 #[.val (.ref ch), .val (.int xf), .val (.int xt), .val (.int iv), .val (.int iv), .val (.int ((ff iv.toInt.toNat) &&& (255 : Int32))), .val (.int (4 : Int32)), .val (.int lo), .val (.int hi), .val (.int (0 : Int32)), .val (.int (3 : Int32)), .val (.int ((ff (iv.toInt.toNat + 2)) &&& (255 : Int32)))] [(.int iv)])) (fun tgt k => ?_) ?_
                            · show Steps p.tables e below (s₁.setTop (mkF m 5 #[.val (.ref ch), .val (.int xf), .val (.int xt), .val (.int iv), .val (.int iv), .val (.int ((ff iv.toInt.toNat) &&& (255 : Int32))), .val (.int (4 : Int32)), .val (.int lo), .val (.int hi), .val (.int (0 : Int32)), .val (.int (3 : Int32)), .val (.int ((ff (iv.toInt.toNat + 2)) &&& (255 : Int32)))] [])) tgt
                              refine XS.iloadN X0.here hx rfl (hb hby d1_5) rfl ?_
                              show Steps p.tables e below (s₁.setTop (mkF m 6 #[.val (.ref ch), .val (.int xf), .val (.int xt), .val (.int iv), .val (.int iv), .val (.int ((ff iv.toInt.toNat) &&& (255 : Int32))), .val (.int (4 : Int32)), .val (.int lo), .val (.int hi), .val (.int (0 : Int32)), .val (.int (3 : Int32)), .val (.int ((ff (iv.toInt.toNat + 2)) &&& (255 : Int32)))] [(.int iv)])) tgt
                              refine XS.ifYes X0.here hx rfl (pc0 := 6) (pc' := 314) rfl (hb hby d1_6) rfl ((if0 _ _).trans (flt (by rw [own_ilt, show (0 : Int32).toInt = 0 from rfl]; omega)).2.1) (by decide) (by decide) ?_
                              show Steps p.tables e below (s₁.setTop (mkF m 314 #[.val (.ref ch), .val (.int xf), .val (.int xt), .val (.int iv), .val (.int iv), .val (.int ((ff iv.toInt.toNat) &&& (255 : Int32))), .val (.int (4 : Int32)), .val (.int lo), .val (.int hi), .val (.int (0 : Int32)), .val (.int (3 : Int32)), .val (.int ((ff (iv.toInt.toNat + 2)) &&& (255 : Int32)))] [])) tgt
                              refine XS.iloadN X0.here hx rfl (hb hby d1_314) rfl ?_
                              exact k
                            refine own_retI X0 hx hlk Bd.returns (hb hby d1_315) ?_ (by decide) (by decide)
                            show Q1 Z ch xf xt ff fu h0 n0 (some (.int iv)) s₁.heap _
                            rw [e0]
                            refine ⟨?_, N0, rfl⟩
                            exact congrArg (fun q => some (Value.int q)) (by rw [← hE, own_bad hc12 (by unfold own_S own_s4; rw [if_neg hc43, if_neg hc57, if_pos hc65, if_pos hc87, if_neg hc145, ← hlo, ← hhi, if_neg hc198, if_neg hc246, if_neg hc253, if_neg hc269, if_pos hc277])])
                          · skip
                            refine own_st (V := s₁.setTop (mkF m 290 #[.val (.ref ch), .val (.int xf), .val (.int xt), .val (.int (-1 : Int32)), .val (.int iv), .val (.int ((ff iv.toInt.toNat) &&& (255 : Int32))), .val (.int (4 : Int32)), .val (.int lo), .val (.int hi), .val (.int (1 : Int32)), .val (.int ((2 : Int32) + (1 : Int32))), .val (.int ((ff (iv.toInt.toNat + 2)) &&& (255 : Int32)))] [])) (fun tgt k => ?_) ?_
                            · show Steps p.tables e below (s₁.setTop (mkF m 277 #[.val (.ref ch), .val (.int xf), .val (.int xt), .val (.int (-1 : Int32)), .val (.int iv), .val (.int ((ff iv.toInt.toNat) &&& (255 : Int32))), .val (.int (4 : Int32)), .val (.int lo), .val (.int hi), .val (.int (1 : Int32)), .val (.int (2 : Int32)), .val (.int ((ff (iv.toInt.toNat + 2)) &&& (255 : Int32)))] [(.int (191 : Int32)), (.int ((ff (iv.toInt.toNat + 2)) &&& (255 : Int32)))])) tgt
                              refine XS.icmpNo X0.here hx rfl (hb hby d1_277) rfl (flt hc277).2.2.1 ?_
                              show Steps p.tables e below (s₁.setTop (mkF m 280 #[.val (.ref ch), .val (.int xf), .val (.int xt), .val (.int (-1 : Int32)), .val (.int iv), .val (.int ((ff iv.toInt.toNat) &&& (255 : Int32))), .val (.int (4 : Int32)), .val (.int lo), .val (.int hi), .val (.int (1 : Int32)), .val (.int (2 : Int32)), .val (.int ((ff (iv.toInt.toNat + 2)) &&& (255 : Int32)))] [])) tgt
                              refine XS.iconst X0.here hx rfl (hb hby d1_280) ?_
                              show Steps p.tables e below (s₁.setTop (mkF m 281 #[.val (.ref ch), .val (.int xf), .val (.int xt), .val (.int (-1 : Int32)), .val (.int iv), .val (.int ((ff iv.toInt.toNat) &&& (255 : Int32))), .val (.int (4 : Int32)), .val (.int lo), .val (.int hi), .val (.int (1 : Int32)), .val (.int (2 : Int32)), .val (.int ((ff (iv.toInt.toNat + 2)) &&& (255 : Int32)))] [(.int (1 : Int32))])) tgt
                              refine XS.goto X0.here hx rfl (pc0 := 281) (pc' := 285) rfl (hb hby d1_281) (by decide) (by decide) ?_
                              show Steps p.tables e below (s₁.setTop (mkF m 285 #[.val (.ref ch), .val (.int xf), .val (.int xt), .val (.int (-1 : Int32)), .val (.int iv), .val (.int ((ff iv.toInt.toNat) &&& (255 : Int32))), .val (.int (4 : Int32)), .val (.int lo), .val (.int hi), .val (.int (1 : Int32)), .val (.int (2 : Int32)), .val (.int ((ff (iv.toInt.toNat + 2)) &&& (255 : Int32)))] [(.int (1 : Int32))])) tgt
                              refine XS.istore X0.here hx rfl (hb hby d1_285) rfl (l' := #[.val (.ref ch), .val (.int xf), .val (.int xt), .val (.int (-1 : Int32)), .val (.int iv), .val (.int ((ff iv.toInt.toNat) &&& (255 : Int32))), .val (.int (4 : Int32)), .val (.int lo), .val (.int hi), .val (.int (1 : Int32)), .val (.int (2 : Int32)), .val (.int ((ff (iv.toInt.toNat + 2)) &&& (255 : Int32)))]) rfl ?_
                              show Steps p.tables e below (s₁.setTop (mkF m 287 #[.val (.ref ch), .val (.int xf), .val (.int xt), .val (.int (-1 : Int32)), .val (.int iv), .val (.int ((ff iv.toInt.toNat) &&& (255 : Int32))), .val (.int (4 : Int32)), .val (.int lo), .val (.int hi), .val (.int (1 : Int32)), .val (.int (2 : Int32)), .val (.int ((ff (iv.toInt.toNat + 2)) &&& (255 : Int32)))] [])) tgt
                              refine XS.iinc X0.here hx rfl (hb hby d1_287) rfl (l' := #[.val (.ref ch), .val (.int xf), .val (.int xt), .val (.int (-1 : Int32)), .val (.int iv), .val (.int ((ff iv.toInt.toNat) &&& (255 : Int32))), .val (.int (4 : Int32)), .val (.int lo), .val (.int hi), .val (.int (1 : Int32)), .val (.int ((2 : Int32) + (1 : Int32))), .val (.int ((ff (iv.toInt.toNat + 2)) &&& (255 : Int32)))]) rfl ?_
                              exact k
                            rw [show ((2 : Int32) + (1 : Int32)) = (3 : Int32) from by decide]
                            refine own_st (V := s₁.setTop (mkF m 269 #[.val (.ref ch), .val (.int xf), .val (.int xt), .val (.int (-1 : Int32)), .val (.int iv), .val (.int ((ff iv.toInt.toNat) &&& (255 : Int32))), .val (.int (4 : Int32)), .val (.int lo), .val (.int hi), .val (.int (1 : Int32)), .val (.int (3 : Int32)), .val (.int ((ff (iv.toInt.toNat + 3)) &&& (255 : Int32)))] [(.int (128 : Int32)), (.int ((ff (iv.toInt.toNat + 3)) &&& (255 : Int32)))])) (fun tgt k => ?_) ?_
                            · show Steps p.tables e below (s₁.setTop (mkF m 290 #[.val (.ref ch), .val (.int xf), .val (.int xt), .val (.int (-1 : Int32)), .val (.int iv), .val (.int ((ff iv.toInt.toNat) &&& (255 : Int32))), .val (.int (4 : Int32)), .val (.int lo), .val (.int hi), .val (.int (1 : Int32)), .val (.int (3 : Int32)), .val (.int ((ff (iv.toInt.toNat + 2)) &&& (255 : Int32)))] [])) tgt
                              refine XS.goto X0.here hx rfl (pc0 := 290) (pc' := 211) rfl (hb hby d1_290) (by decide) (by decide) ?_
                              show Steps p.tables e below (s₁.setTop (mkF m 211 #[.val (.ref ch), .val (.int xf), .val (.int xt), .val (.int (-1 : Int32)), .val (.int iv), .val (.int ((ff iv.toInt.toNat) &&& (255 : Int32))), .val (.int (4 : Int32)), .val (.int lo), .val (.int hi), .val (.int (1 : Int32)), .val (.int (3 : Int32)), .val (.int ((ff (iv.toInt.toNat + 2)) &&& (255 : Int32)))] [])) tgt
                              refine XS.iload X0.here hx rfl (hb hby d1_211) rfl ?_
                              show Steps p.tables e below (s₁.setTop (mkF m 213 #[.val (.ref ch), .val (.int xf), .val (.int xt), .val (.int (-1 : Int32)), .val (.int iv), .val (.int ((ff iv.toInt.toNat) &&& (255 : Int32))), .val (.int (4 : Int32)), .val (.int lo), .val (.int hi), .val (.int (1 : Int32)), .val (.int (3 : Int32)), .val (.int ((ff (iv.toInt.toNat + 2)) &&& (255 : Int32)))] [(.int (1 : Int32))])) tgt
                              refine XS.ifNo X0.here hx rfl (hb hby d1_213) rfl ((if0 _ _).trans (feq (by decide : ¬ ((1 : Int32) = (0 : Int32)))).1) ?_
                              show Steps p.tables e below (s₁.setTop (mkF m 216 #[.val (.ref ch), .val (.int xf), .val (.int xt), .val (.int (-1 : Int32)), .val (.int iv), .val (.int ((ff iv.toInt.toNat) &&& (255 : Int32))), .val (.int (4 : Int32)), .val (.int lo), .val (.int hi), .val (.int (1 : Int32)), .val (.int (3 : Int32)), .val (.int ((ff (iv.toInt.toNat + 2)) &&& (255 : Int32)))] [])) tgt
                              refine XS.iload X0.here hx rfl (hb hby d1_216) rfl ?_
                              show Steps p.tables e below (s₁.setTop (mkF m 218 #[.val (.ref ch), .val (.int xf), .val (.int xt), .val (.int (-1 : Int32)), .val (.int iv), .val (.int ((ff iv.toInt.toNat) &&& (255 : Int32))), .val (.int (4 : Int32)), .val (.int lo), .val (.int hi), .val (.int (1 : Int32)), .val (.int (3 : Int32)), .val (.int ((ff (iv.toInt.toNat + 2)) &&& (255 : Int32)))] [(.int (3 : Int32))])) tgt
                              refine XS.iload X0.here hx rfl (hb hby d1_218) rfl ?_
                              show Steps p.tables e below (s₁.setTop (mkF m 220 #[.val (.ref ch), .val (.int xf), .val (.int xt), .val (.int (-1 : Int32)), .val (.int iv), .val (.int ((ff iv.toInt.toNat) &&& (255 : Int32))), .val (.int (4 : Int32)), .val (.int lo), .val (.int hi), .val (.int (1 : Int32)), .val (.int (3 : Int32)), .val (.int ((ff (iv.toInt.toNat + 2)) &&& (255 : Int32)))] [(.int (4 : Int32)), (.int (3 : Int32))])) tgt
                              refine XS.icmpNo X0.here hx rfl (hb hby d1_220) rfl (tlt (by decide : (3 : Int32) < (4 : Int32))).2.1 ?_
                              show Steps p.tables e below (s₁.setTop (mkF m 223 #[.val (.ref ch), .val (.int xf), .val (.int xt), .val (.int (-1 : Int32)), .val (.int iv), .val (.int ((ff iv.toInt.toNat) &&& (255 : Int32))), .val (.int (4 : Int32)), .val (.int lo), .val (.int hi), .val (.int (1 : Int32)), .val (.int (3 : Int32)), .val (.int ((ff (iv.toInt.toNat + 2)) &&& (255 : Int32)))] [])) tgt
                              refine XS.aloadN X0.here hx rfl (hb hby d1_223) rfl rfl ?_
                              show Steps p.tables e below (s₁.setTop (mkF m 224 #[.val (.ref ch), .val (.int xf), .val (.int xt), .val (.int (-1 : Int32)), .val (.int iv), .val (.int ((ff iv.toInt.toNat) &&& (255 : Int32))), .val (.int (4 : Int32)), .val (.int lo), .val (.int hi), .val (.int (1 : Int32)), .val (.int (3 : Int32)), .val (.int ((ff (iv.toInt.toNat + 2)) &&& (255 : Int32)))] [(.ref ch)])) tgt
                              refine XS.iload X0.here hx rfl (hb hby d1_224) rfl ?_
                              show Steps p.tables e below (s₁.setTop (mkF m 226 #[.val (.ref ch), .val (.int xf), .val (.int xt), .val (.int (-1 : Int32)), .val (.int iv), .val (.int ((ff iv.toInt.toNat) &&& (255 : Int32))), .val (.int (4 : Int32)), .val (.int lo), .val (.int hi), .val (.int (1 : Int32)), .val (.int (3 : Int32)), .val (.int ((ff (iv.toInt.toNat + 2)) &&& (255 : Int32)))] [(.int iv), (.ref ch)])) tgt
                              refine XS.iload X0.here hx rfl (hb hby d1_226) rfl ?_
                              show Steps p.tables e below (s₁.setTop (mkF m 228 #[.val (.ref ch), .val (.int xf), .val (.int xt), .val (.int (-1 : Int32)), .val (.int iv), .val (.int ((ff iv.toInt.toNat) &&& (255 : Int32))), .val (.int (4 : Int32)), .val (.int lo), .val (.int hi), .val (.int (1 : Int32)), .val (.int (3 : Int32)), .val (.int ((ff (iv.toInt.toNat + 2)) &&& (255 : Int32)))] [(.int (3 : Int32)), (.int iv), (.ref ch)])) tgt
                              refine XS.iadd X0.here hx rfl (hb hby d1_228) rfl ?_
                              show Steps p.tables e below (s₁.setTop (mkF m 229 #[.val (.ref ch), .val (.int xf), .val (.int xt), .val (.int (-1 : Int32)), .val (.int iv), .val (.int ((ff iv.toInt.toNat) &&& (255 : Int32))), .val (.int (4 : Int32)), .val (.int lo), .val (.int hi), .val (.int (1 : Int32)), .val (.int (3 : Int32)), .val (.int ((ff (iv.toInt.toNat + 2)) &&& (255 : Int32)))] [(.int (iv + (3 : Int32))), (.ref ch)])) tgt
                              refine own_baload X0 hx hZ e0 A1 (j := (iv + (3 : Int32))) (k := (iv.toInt.toNat + 3)) a3 (by rw [own_ilt] at hc12; have := hfit; omega) (g := (mkF m 229 #[.val (.ref ch), .val (.int xf), .val (.int xt), .val (.int (-1 : Int32)), .val (.int iv), .val (.int ((ff iv.toInt.toNat) &&& (255 : Int32))), .val (.int (4 : Int32)), .val (.int lo), .val (.int hi), .val (.int (1 : Int32)), .val (.int (3 : Int32)), .val (.int ((ff (iv.toInt.toNat + 2)) &&& (255 : Int32)))] [(.int (iv + (3 : Int32))), (.ref ch)])) rfl rfl (hb hby d1_229) ?_
                              show Steps p.tables e below (s₁.setTop (mkF m 230 #[.val (.ref ch), .val (.int xf), .val (.int xt), .val (.int (-1 : Int32)), .val (.int iv), .val (.int ((ff iv.toInt.toNat) &&& (255 : Int32))), .val (.int (4 : Int32)), .val (.int lo), .val (.int hi), .val (.int (1 : Int32)), .val (.int (3 : Int32)), .val (.int ((ff (iv.toInt.toNat + 2)) &&& (255 : Int32)))] [(.int (ff (iv.toInt.toNat + 3)))])) tgt
                              refine XS.sipush X0.here hx rfl (hb hby d1_230) ?_
                              show Steps p.tables e below (s₁.setTop (mkF m 233 #[.val (.ref ch), .val (.int xf), .val (.int xt), .val (.int (-1 : Int32)), .val (.int iv), .val (.int ((ff iv.toInt.toNat) &&& (255 : Int32))), .val (.int (4 : Int32)), .val (.int lo), .val (.int hi), .val (.int (1 : Int32)), .val (.int (3 : Int32)), .val (.int ((ff (iv.toInt.toNat + 2)) &&& (255 : Int32)))] [(.int (255 : Int32)), (.int (ff (iv.toInt.toNat + 3)))])) tgt
                              refine XS.iand X0.here hx rfl (hb hby d1_233) rfl ?_
                              show Steps p.tables e below (s₁.setTop (mkF m 234 #[.val (.ref ch), .val (.int xf), .val (.int xt), .val (.int (-1 : Int32)), .val (.int iv), .val (.int ((ff iv.toInt.toNat) &&& (255 : Int32))), .val (.int (4 : Int32)), .val (.int lo), .val (.int hi), .val (.int (1 : Int32)), .val (.int (3 : Int32)), .val (.int ((ff (iv.toInt.toNat + 2)) &&& (255 : Int32)))] [(.int ((ff (iv.toInt.toNat + 3)) &&& (255 : Int32)))])) tgt
                              refine XS.istore X0.here hx rfl (hb hby d1_234) rfl (l' := #[.val (.ref ch), .val (.int xf), .val (.int xt), .val (.int (-1 : Int32)), .val (.int iv), .val (.int ((ff iv.toInt.toNat) &&& (255 : Int32))), .val (.int (4 : Int32)), .val (.int lo), .val (.int hi), .val (.int (1 : Int32)), .val (.int (3 : Int32)), .val (.int ((ff (iv.toInt.toNat + 3)) &&& (255 : Int32)))]) rfl ?_
                              show Steps p.tables e below (s₁.setTop (mkF m 236 #[.val (.ref ch), .val (.int xf), .val (.int xt), .val (.int (-1 : Int32)), .val (.int iv), .val (.int ((ff iv.toInt.toNat) &&& (255 : Int32))), .val (.int (4 : Int32)), .val (.int lo), .val (.int hi), .val (.int (1 : Int32)), .val (.int (3 : Int32)), .val (.int ((ff (iv.toInt.toNat + 3)) &&& (255 : Int32)))] [])) tgt
                              refine XS.iload X0.here hx rfl (hb hby d1_236) rfl ?_
                              show Steps p.tables e below (s₁.setTop (mkF m 238 #[.val (.ref ch), .val (.int xf), .val (.int xt), .val (.int (-1 : Int32)), .val (.int iv), .val (.int ((ff iv.toInt.toNat) &&& (255 : Int32))), .val (.int (4 : Int32)), .val (.int lo), .val (.int hi), .val (.int (1 : Int32)), .val (.int (3 : Int32)), .val (.int ((ff (iv.toInt.toNat + 3)) &&& (255 : Int32)))] [(.int (3 : Int32))])) tgt
                              refine XS.iconst X0.here hx rfl (hb hby d1_238) ?_
                              show Steps p.tables e below (s₁.setTop (mkF m 239 #[.val (.ref ch), .val (.int xf), .val (.int xt), .val (.int (-1 : Int32)), .val (.int iv), .val (.int ((ff iv.toInt.toNat) &&& (255 : Int32))), .val (.int (4 : Int32)), .val (.int lo), .val (.int hi), .val (.int (1 : Int32)), .val (.int (3 : Int32)), .val (.int ((ff (iv.toInt.toNat + 3)) &&& (255 : Int32)))] [(.int (1 : Int32)), (.int (3 : Int32))])) tgt
                              refine XS.icmpYes X0.here hx rfl (pc0 := 239) (pc' := 264) rfl (hb hby d1_239) rfl (feq (by decide : ¬ ((3 : Int32) = (1 : Int32)))).2 (by decide) (by decide) ?_
                              show Steps p.tables e below (s₁.setTop (mkF m 264 #[.val (.ref ch), .val (.int xf), .val (.int xt), .val (.int (-1 : Int32)), .val (.int iv), .val (.int ((ff iv.toInt.toNat) &&& (255 : Int32))), .val (.int (4 : Int32)), .val (.int lo), .val (.int hi), .val (.int (1 : Int32)), .val (.int (3 : Int32)), .val (.int ((ff (iv.toInt.toNat + 3)) &&& (255 : Int32)))] [])) tgt
                              refine XS.iload X0.here hx rfl (hb hby d1_264) rfl ?_
                              show Steps p.tables e below (s₁.setTop (mkF m 266 #[.val (.ref ch), .val (.int xf), .val (.int xt), .val (.int (-1 : Int32)), .val (.int iv), .val (.int ((ff iv.toInt.toNat) &&& (255 : Int32))), .val (.int (4 : Int32)), .val (.int lo), .val (.int hi), .val (.int (1 : Int32)), .val (.int (3 : Int32)), .val (.int ((ff (iv.toInt.toNat + 3)) &&& (255 : Int32)))] [(.int ((ff (iv.toInt.toNat + 3)) &&& (255 : Int32)))])) tgt
                              refine XS.sipush X0.here hx rfl (hb hby d1_266) ?_
                              exact k
                            by_cases hc269_2 : ((ff (iv.toInt.toNat + 3)) &&& (255 : Int32)) < (128 : Int32)
                            · skip
                              refine own_st (V := s₁.setTop (mkF m 290 #[.val (.ref ch), .val (.int xf), .val (.int xt), .val (.int (-1 : Int32)), .val (.int iv), .val (.int ((ff iv.toInt.toNat) &&& (255 : Int32))), .val (.int (4 : Int32)), .val (.int lo), .val (.int hi), .val (.int (0 : Int32)), .val (.int ((3 : Int32) + (1 : Int32))), .val (.int ((ff (iv.toInt.toNat + 3)) &&& (255 : Int32)))] [])) (fun tgt k => ?_) ?_
                              · show Steps p.tables e below (s₁.setTop (mkF m 269 #[.val (.ref ch), .val (.int xf), .val (.int xt), .val (.int (-1 : Int32)), .val (.int iv), .val (.int ((ff iv.toInt.toNat) &&& (255 : Int32))), .val (.int (4 : Int32)), .val (.int lo), .val (.int hi), .val (.int (1 : Int32)), .val (.int (3 : Int32)), .val (.int ((ff (iv.toInt.toNat + 3)) &&& (255 : Int32)))] [(.int (128 : Int32)), (.int ((ff (iv.toInt.toNat + 3)) &&& (255 : Int32)))])) tgt
                                refine XS.icmpYes X0.here hx rfl (pc0 := 269) (pc' := 284) rfl (hb hby d1_269) rfl (tlt hc269_2).1 (by decide) (by decide) ?_
                                show Steps p.tables e below (s₁.setTop (mkF m 284 #[.val (.ref ch), .val (.int xf), .val (.int xt), .val (.int (-1 : Int32)), .val (.int iv), .val (.int ((ff iv.toInt.toNat) &&& (255 : Int32))), .val (.int (4 : Int32)), .val (.int lo), .val (.int hi), .val (.int (1 : Int32)), .val (.int (3 : Int32)), .val (.int ((ff (iv.toInt.toNat + 3)) &&& (255 : Int32)))] [])) tgt
                                refine XS.iconst X0.here hx rfl (hb hby d1_284) ?_
                                show Steps p.tables e below (s₁.setTop (mkF m 285 #[.val (.ref ch), .val (.int xf), .val (.int xt), .val (.int (-1 : Int32)), .val (.int iv), .val (.int ((ff iv.toInt.toNat) &&& (255 : Int32))), .val (.int (4 : Int32)), .val (.int lo), .val (.int hi), .val (.int (1 : Int32)), .val (.int (3 : Int32)), .val (.int ((ff (iv.toInt.toNat + 3)) &&& (255 : Int32)))] [(.int (0 : Int32))])) tgt
                                refine XS.istore X0.here hx rfl (hb hby d1_285) rfl (l' := #[.val (.ref ch), .val (.int xf), .val (.int xt), .val (.int (-1 : Int32)), .val (.int iv), .val (.int ((ff iv.toInt.toNat) &&& (255 : Int32))), .val (.int (4 : Int32)), .val (.int lo), .val (.int hi), .val (.int (0 : Int32)), .val (.int (3 : Int32)), .val (.int ((ff (iv.toInt.toNat + 3)) &&& (255 : Int32)))]) rfl ?_
                                show Steps p.tables e below (s₁.setTop (mkF m 287 #[.val (.ref ch), .val (.int xf), .val (.int xt), .val (.int (-1 : Int32)), .val (.int iv), .val (.int ((ff iv.toInt.toNat) &&& (255 : Int32))), .val (.int (4 : Int32)), .val (.int lo), .val (.int hi), .val (.int (0 : Int32)), .val (.int (3 : Int32)), .val (.int ((ff (iv.toInt.toNat + 3)) &&& (255 : Int32)))] [])) tgt
                                refine XS.iinc X0.here hx rfl (hb hby d1_287) rfl (l' := #[.val (.ref ch), .val (.int xf), .val (.int xt), .val (.int (-1 : Int32)), .val (.int iv), .val (.int ((ff iv.toInt.toNat) &&& (255 : Int32))), .val (.int (4 : Int32)), .val (.int lo), .val (.int hi), .val (.int (0 : Int32)), .val (.int ((3 : Int32) + (1 : Int32))), .val (.int ((ff (iv.toInt.toNat + 3)) &&& (255 : Int32)))]) rfl ?_
                                exact k
                              rw [show ((3 : Int32) + (1 : Int32)) = (4 : Int32) from by decide]
                              refine own_st (V := s₁.setTop (mkF m 5 #[.val (.ref ch), .val (.int xf), .val (.int xt), .val (.int iv), .val (.int iv), .val (.int ((ff iv.toInt.toNat) &&& (255 : Int32))), .val (.int (4 : Int32)), .val (.int lo), .val (.int hi), .val (.int (0 : Int32)), .val (.int (4 : Int32)), .val (.int ((ff (iv.toInt.toNat + 3)) &&& (255 : Int32)))] [])) (fun tgt k => ?_) ?_
                              · show Steps p.tables e below (s₁.setTop (mkF m 290 #[.val (.ref ch), .val (.int xf), .val (.int xt), .val (.int (-1 : Int32)), .val (.int iv), .val (.int ((ff iv.toInt.toNat) &&& (255 : Int32))), .val (.int (4 : Int32)), .val (.int lo), .val (.int hi), .val (.int (0 : Int32)), .val (.int (4 : Int32)), .val (.int ((ff (iv.toInt.toNat + 3)) &&& (255 : Int32)))] [])) tgt
                                refine XS.goto X0.here hx rfl (pc0 := 290) (pc' := 211) rfl (hb hby d1_290) (by decide) (by decide) ?_
                                show Steps p.tables e below (s₁.setTop (mkF m 211 #[.val (.ref ch), .val (.int xf), .val (.int xt), .val (.int (-1 : Int32)), .val (.int iv), .val (.int ((ff iv.toInt.toNat) &&& (255 : Int32))), .val (.int (4 : Int32)), .val (.int lo), .val (.int hi), .val (.int (0 : Int32)), .val (.int (4 : Int32)), .val (.int ((ff (iv.toInt.toNat + 3)) &&& (255 : Int32)))] [])) tgt
                                refine XS.iload X0.here hx rfl (hb hby d1_211) rfl ?_
                                show Steps p.tables e below (s₁.setTop (mkF m 213 #[.val (.ref ch), .val (.int xf), .val (.int xt), .val (.int (-1 : Int32)), .val (.int iv), .val (.int ((ff iv.toInt.toNat) &&& (255 : Int32))), .val (.int (4 : Int32)), .val (.int lo), .val (.int hi), .val (.int (0 : Int32)), .val (.int (4 : Int32)), .val (.int ((ff (iv.toInt.toNat + 3)) &&& (255 : Int32)))] [(.int (0 : Int32))])) tgt
                                refine XS.ifYes X0.here hx rfl (pc0 := 213) (pc' := 293) rfl (hb hby d1_213) rfl ((if0 _ _).trans (teq (by decide : (0 : Int32) = (0 : Int32))).1) (by decide) (by decide) ?_
                                show Steps p.tables e below (s₁.setTop (mkF m 293 #[.val (.ref ch), .val (.int xf), .val (.int xt), .val (.int (-1 : Int32)), .val (.int iv), .val (.int ((ff iv.toInt.toNat) &&& (255 : Int32))), .val (.int (4 : Int32)), .val (.int lo), .val (.int hi), .val (.int (0 : Int32)), .val (.int (4 : Int32)), .val (.int ((ff (iv.toInt.toNat + 3)) &&& (255 : Int32)))] [])) tgt
                                refine XS.iload X0.here hx rfl (hb hby d1_293) rfl ?_
                                show Steps p.tables e below (s₁.setTop (mkF m 295 #[.val (.ref ch), .val (.int xf), .val (.int xt), .val (.int (-1 : Int32)), .val (.int iv), .val (.int ((ff iv.toInt.toNat) &&& (255 : Int32))), .val (.int (4 : Int32)), .val (.int lo), .val (.int hi), .val (.int (0 : Int32)), .val (.int (4 : Int32)), .val (.int ((ff (iv.toInt.toNat + 3)) &&& (255 : Int32)))] [(.int (0 : Int32))])) tgt
                                refine XS.ifYes X0.here hx rfl (pc0 := 295) (pc' := 308) rfl (hb hby d1_295) rfl ((if0 _ _).trans (teq (by decide : (0 : Int32) = (0 : Int32))).1) (by decide) (by decide) ?_
                                show Steps p.tables e below (s₁.setTop (mkF m 308 #[.val (.ref ch), .val (.int xf), .val (.int xt), .val (.int (-1 : Int32)), .val (.int iv), .val (.int ((ff iv.toInt.toNat) &&& (255 : Int32))), .val (.int (4 : Int32)), .val (.int lo), .val (.int hi), .val (.int (0 : Int32)), .val (.int (4 : Int32)), .val (.int ((ff (iv.toInt.toNat + 3)) &&& (255 : Int32)))] [])) tgt
                                refine XS.iload X0.here hx rfl (hb hby d1_308) rfl ?_
                                show Steps p.tables e below (s₁.setTop (mkF m 310 #[.val (.ref ch), .val (.int xf), .val (.int xt), .val (.int (-1 : Int32)), .val (.int iv), .val (.int ((ff iv.toInt.toNat) &&& (255 : Int32))), .val (.int (4 : Int32)), .val (.int lo), .val (.int hi), .val (.int (0 : Int32)), .val (.int (4 : Int32)), .val (.int ((ff (iv.toInt.toNat + 3)) &&& (255 : Int32)))] [(.int iv)])) tgt
                                refine XS.istoreN X0.here hx rfl (hb hby d1_310) rfl (l' := #[.val (.ref ch), .val (.int xf), .val (.int xt), .val (.int iv), .val (.int iv), .val (.int ((ff iv.toInt.toNat) &&& (255 : Int32))), .val (.int (4 : Int32)), .val (.int lo), .val (.int hi), .val (.int (0 : Int32)), .val (.int (4 : Int32)), .val (.int ((ff (iv.toInt.toNat + 3)) &&& (255 : Int32)))]) rfl ?_
                                show Steps p.tables e below (s₁.setTop (mkF m 311 #[.val (.ref ch), .val (.int xf), .val (.int xt), .val (.int iv), .val (.int iv), .val (.int ((ff iv.toInt.toNat) &&& (255 : Int32))), .val (.int (4 : Int32)), .val (.int lo), .val (.int hi), .val (.int (0 : Int32)), .val (.int (4 : Int32)), .val (.int ((ff (iv.toInt.toNat + 3)) &&& (255 : Int32)))] [])) tgt
                                refine XS.goto X0.here hx rfl (pc0 := 311) (pc' := 5) rfl (hb hby d1_311) (by decide) (by decide) ?_
                                exact k
                              refine own_st (V := s₁.setTop (mkF m 315 #[.val (.ref ch), .val (.int xf), .val (.int xt), .val (.int iv), .val (.int iv), .val (.int ((ff iv.toInt.toNat) &&& (255 : Int32))), .val (.int (4 : Int32)), .val (.int lo), .val (.int hi), .val (.int (0 : Int32)), .val (.int (4 : Int32)), .val (.int ((ff (iv.toInt.toNat + 3)) &&& (255 : Int32)))] [(.int iv)])) (fun tgt k => ?_) ?_
                              · show Steps p.tables e below (s₁.setTop (mkF m 5 #[.val (.ref ch), .val (.int xf), .val (.int xt), .val (.int iv), .val (.int iv), .val (.int ((ff iv.toInt.toNat) &&& (255 : Int32))), .val (.int (4 : Int32)), .val (.int lo), .val (.int hi), .val (.int (0 : Int32)), .val (.int (4 : Int32)), .val (.int ((ff (iv.toInt.toNat + 3)) &&& (255 : Int32)))] [])) tgt
                                refine XS.iloadN X0.here hx rfl (hb hby d1_5) rfl ?_
                                show Steps p.tables e below (s₁.setTop (mkF m 6 #[.val (.ref ch), .val (.int xf), .val (.int xt), .val (.int iv), .val (.int iv), .val (.int ((ff iv.toInt.toNat) &&& (255 : Int32))), .val (.int (4 : Int32)), .val (.int lo), .val (.int hi), .val (.int (0 : Int32)), .val (.int (4 : Int32)), .val (.int ((ff (iv.toInt.toNat + 3)) &&& (255 : Int32)))] [(.int iv)])) tgt
                                refine XS.ifYes X0.here hx rfl (pc0 := 6) (pc' := 314) rfl (hb hby d1_6) rfl ((if0 _ _).trans (flt (by rw [own_ilt, show (0 : Int32).toInt = 0 from rfl]; omega)).2.1) (by decide) (by decide) ?_
                                show Steps p.tables e below (s₁.setTop (mkF m 314 #[.val (.ref ch), .val (.int xf), .val (.int xt), .val (.int iv), .val (.int iv), .val (.int ((ff iv.toInt.toNat) &&& (255 : Int32))), .val (.int (4 : Int32)), .val (.int lo), .val (.int hi), .val (.int (0 : Int32)), .val (.int (4 : Int32)), .val (.int ((ff (iv.toInt.toNat + 3)) &&& (255 : Int32)))] [])) tgt
                                refine XS.iloadN X0.here hx rfl (hb hby d1_314) rfl ?_
                                exact k
                              refine own_retI X0 hx hlk Bd.returns (hb hby d1_315) ?_ (by decide) (by decide)
                              show Q1 Z ch xf xt ff fu h0 n0 (some (.int iv)) s₁.heap _
                              rw [e0]
                              refine ⟨?_, N0, rfl⟩
                              exact congrArg (fun q => some (Value.int q)) (by rw [← hE, own_bad hc12 (by unfold own_S own_s4; rw [if_neg hc43, if_neg hc57, if_pos hc65, if_pos hc87, if_neg hc145, ← hlo, ← hhi, if_neg hc198, if_neg hc246, if_neg hc253, if_neg hc269, if_neg hc277, if_pos hc269_2])])
                            · skip
                              refine own_st (V := s₁.setTop (mkF m 277 #[.val (.ref ch), .val (.int xf), .val (.int xt), .val (.int (-1 : Int32)), .val (.int iv), .val (.int ((ff iv.toInt.toNat) &&& (255 : Int32))), .val (.int (4 : Int32)), .val (.int lo), .val (.int hi), .val (.int (1 : Int32)), .val (.int (3 : Int32)), .val (.int ((ff (iv.toInt.toNat + 3)) &&& (255 : Int32)))] [(.int (191 : Int32)), (.int ((ff (iv.toInt.toNat + 3)) &&& (255 : Int32)))])) (fun tgt k => ?_) ?_
                              · show Steps p.tables e below (s₁.setTop (mkF m 269 #[.val (.ref ch), .val (.int xf), .val (.int xt), .val (.int (-1 : Int32)), .val (.int iv), .val (.int ((ff iv.toInt.toNat) &&& (255 : Int32))), .val (.int (4 : Int32)), .val (.int lo), .val (.int hi), .val (.int (1 : Int32)), .val (.int (3 : Int32)), .val (.int ((ff (iv.toInt.toNat + 3)) &&& (255 : Int32)))] [(.int (128 : Int32)), (.int ((ff (iv.toInt.toNat + 3)) &&& (255 : Int32)))])) tgt
                                refine XS.icmpNo X0.here hx rfl (hb hby d1_269) rfl (flt hc269_2).1 ?_
                                show Steps p.tables e below (s₁.setTop (mkF m 272 #[.val (.ref ch), .val (.int xf), .val (.int xt), .val (.int (-1 : Int32)), .val (.int iv), .val (.int ((ff iv.toInt.toNat) &&& (255 : Int32))), .val (.int (4 : Int32)), .val (.int lo), .val (.int hi), .val (.int (1 : Int32)), .val (.int (3 : Int32)), .val (.int ((ff (iv.toInt.toNat + 3)) &&& (255 : Int32)))] [])) tgt
                                refine XS.iload X0.here hx rfl (hb hby d1_272) rfl ?_
                                show Steps p.tables e below (s₁.setTop (mkF m 274 #[.val (.ref ch), .val (.int xf), .val (.int xt), .val (.int (-1 : Int32)), .val (.int iv), .val (.int ((ff iv.toInt.toNat) &&& (255 : Int32))), .val (.int (4 : Int32)), .val (.int lo), .val (.int hi), .val (.int (1 : Int32)), .val (.int (3 : Int32)), .val (.int ((ff (iv.toInt.toNat + 3)) &&& (255 : Int32)))] [(.int ((ff (iv.toInt.toNat + 3)) &&& (255 : Int32)))])) tgt
                                refine XS.sipush X0.here hx rfl (hb hby d1_274) ?_
                                exact k
                              by_cases hc277_2 : (191 : Int32) < ((ff (iv.toInt.toNat + 3)) &&& (255 : Int32))
                              · skip
                                refine own_st (V := s₁.setTop (mkF m 290 #[.val (.ref ch), .val (.int xf), .val (.int xt), .val (.int (-1 : Int32)), .val (.int iv), .val (.int ((ff iv.toInt.toNat) &&& (255 : Int32))), .val (.int (4 : Int32)), .val (.int lo), .val (.int hi), .val (.int (0 : Int32)), .val (.int ((3 : Int32) + (1 : Int32))), .val (.int ((ff (iv.toInt.toNat + 3)) &&& (255 : Int32)))] [])) (fun tgt k => ?_) ?_
                                · show Steps p.tables e below (s₁.setTop (mkF m 277 #[.val (.ref ch), .val (.int xf), .val (.int xt), .val (.int (-1 : Int32)), .val (.int iv), .val (.int ((ff iv.toInt.toNat) &&& (255 : Int32))), .val (.int (4 : Int32)), .val (.int lo), .val (.int hi), .val (.int (1 : Int32)), .val (.int (3 : Int32)), .val (.int ((ff (iv.toInt.toNat + 3)) &&& (255 : Int32)))] [(.int (191 : Int32)), (.int ((ff (iv.toInt.toNat + 3)) &&& (255 : Int32)))])) tgt
                                  refine XS.icmpYes X0.here hx rfl (pc0 := 277) (pc' := 284) rfl (hb hby d1_277) rfl (tlt hc277_2).2.2.1 (by decide) (by decide) ?_
                                  show Steps p.tables e below (s₁.setTop (mkF m 284 #[.val (.ref ch), .val (.int xf), .val (.int xt), .val (.int (-1 : Int32)), .val (.int iv), .val (.int ((ff iv.toInt.toNat) &&& (255 : Int32))), .val (.int (4 : Int32)), .val (.int lo), .val (.int hi), .val (.int (1 : Int32)), .val (.int (3 : Int32)), .val (.int ((ff (iv.toInt.toNat + 3)) &&& (255 : Int32)))] [])) tgt
                                  refine XS.iconst X0.here hx rfl (hb hby d1_284) ?_
                                  show Steps p.tables e below (s₁.setTop (mkF m 285 #[.val (.ref ch), .val (.int xf), .val (.int xt), .val (.int (-1 : Int32)), .val (.int iv), .val (.int ((ff iv.toInt.toNat) &&& (255 : Int32))), .val (.int (4 : Int32)), .val (.int lo), .val (.int hi), .val (.int (1 : Int32)), .val (.int (3 : Int32)), .val (.int ((ff (iv.toInt.toNat + 3)) &&& (255 : Int32)))] [(.int (0 : Int32))])) tgt
                                  refine XS.istore X0.here hx rfl (hb hby d1_285) rfl (l' := #[.val (.ref ch), .val (.int xf), .val (.int xt), .val (.int (-1 : Int32)), .val (.int iv), .val (.int ((ff iv.toInt.toNat) &&& (255 : Int32))), .val (.int (4 : Int32)), .val (.int lo), .val (.int hi), .val (.int (0 : Int32)), .val (.int (3 : Int32)), .val (.int ((ff (iv.toInt.toNat + 3)) &&& (255 : Int32)))]) rfl ?_
                                  show Steps p.tables e below (s₁.setTop (mkF m 287 #[.val (.ref ch), .val (.int xf), .val (.int xt), .val (.int (-1 : Int32)), .val (.int iv), .val (.int ((ff iv.toInt.toNat) &&& (255 : Int32))), .val (.int (4 : Int32)), .val (.int lo), .val (.int hi), .val (.int (0 : Int32)), .val (.int (3 : Int32)), .val (.int ((ff (iv.toInt.toNat + 3)) &&& (255 : Int32)))] [])) tgt
                                  refine XS.iinc X0.here hx rfl (hb hby d1_287) rfl (l' := #[.val (.ref ch), .val (.int xf), .val (.int xt), .val (.int (-1 : Int32)), .val (.int iv), .val (.int ((ff iv.toInt.toNat) &&& (255 : Int32))), .val (.int (4 : Int32)), .val (.int lo), .val (.int hi), .val (.int (0 : Int32)), .val (.int ((3 : Int32) + (1 : Int32))), .val (.int ((ff (iv.toInt.toNat + 3)) &&& (255 : Int32)))]) rfl ?_
                                  exact k
                                rw [show ((3 : Int32) + (1 : Int32)) = (4 : Int32) from by decide]
                                refine own_st (V := s₁.setTop (mkF m 5 #[.val (.ref ch), .val (.int xf), .val (.int xt), .val (.int iv), .val (.int iv), .val (.int ((ff iv.toInt.toNat) &&& (255 : Int32))), .val (.int (4 : Int32)), .val (.int lo), .val (.int hi), .val (.int (0 : Int32)), .val (.int (4 : Int32)), .val (.int ((ff (iv.toInt.toNat + 3)) &&& (255 : Int32)))] [])) (fun tgt k => ?_) ?_
                                · show Steps p.tables e below (s₁.setTop (mkF m 290 #[.val (.ref ch), .val (.int xf), .val (.int xt), .val (.int (-1 : Int32)), .val (.int iv), .val (.int ((ff iv.toInt.toNat) &&& (255 : Int32))), .val (.int (4 : Int32)), .val (.int lo), .val (.int hi), .val (.int (0 : Int32)), .val (.int (4 : Int32)), .val (.int ((ff (iv.toInt.toNat + 3)) &&& (255 : Int32)))] [])) tgt
                                  refine XS.goto X0.here hx rfl (pc0 := 290) (pc' := 211) rfl (hb hby d1_290) (by decide) (by decide) ?_
                                  show Steps p.tables e below (s₁.setTop (mkF m 211 #[.val (.ref ch), .val (.int xf), .val (.int xt), .val (.int (-1 : Int32)), .val (.int iv), .val (.int ((ff iv.toInt.toNat) &&& (255 : Int32))), .val (.int (4 : Int32)), .val (.int lo), .val (.int hi), .val (.int (0 : Int32)), .val (.int (4 : Int32)), .val (.int ((ff (iv.toInt.toNat + 3)) &&& (255 : Int32)))] [])) tgt
                                  refine XS.iload X0.here hx rfl (hb hby d1_211) rfl ?_
                                  show Steps p.tables e below (s₁.setTop (mkF m 213 #[.val (.ref ch), .val (.int xf), .val (.int xt), .val (.int (-1 : Int32)), .val (.int iv), .val (.int ((ff iv.toInt.toNat) &&& (255 : Int32))), .val (.int (4 : Int32)), .val (.int lo), .val (.int hi), .val (.int (0 : Int32)), .val (.int (4 : Int32)), .val (.int ((ff (iv.toInt.toNat + 3)) &&& (255 : Int32)))] [(.int (0 : Int32))])) tgt
                                  refine XS.ifYes X0.here hx rfl (pc0 := 213) (pc' := 293) rfl (hb hby d1_213) rfl ((if0 _ _).trans (teq (by decide : (0 : Int32) = (0 : Int32))).1) (by decide) (by decide) ?_
                                  show Steps p.tables e below (s₁.setTop (mkF m 293 #[.val (.ref ch), .val (.int xf), .val (.int xt), .val (.int (-1 : Int32)), .val (.int iv), .val (.int ((ff iv.toInt.toNat) &&& (255 : Int32))), .val (.int (4 : Int32)), .val (.int lo), .val (.int hi), .val (.int (0 : Int32)), .val (.int (4 : Int32)), .val (.int ((ff (iv.toInt.toNat + 3)) &&& (255 : Int32)))] [])) tgt
                                  refine XS.iload X0.here hx rfl (hb hby d1_293) rfl ?_
                                  show Steps p.tables e below (s₁.setTop (mkF m 295 #[.val (.ref ch), .val (.int xf), .val (.int xt), .val (.int (-1 : Int32)), .val (.int iv), .val (.int ((ff iv.toInt.toNat) &&& (255 : Int32))), .val (.int (4 : Int32)), .val (.int lo), .val (.int hi), .val (.int (0 : Int32)), .val (.int (4 : Int32)), .val (.int ((ff (iv.toInt.toNat + 3)) &&& (255 : Int32)))] [(.int (0 : Int32))])) tgt
                                  refine XS.ifYes X0.here hx rfl (pc0 := 295) (pc' := 308) rfl (hb hby d1_295) rfl ((if0 _ _).trans (teq (by decide : (0 : Int32) = (0 : Int32))).1) (by decide) (by decide) ?_
                                  show Steps p.tables e below (s₁.setTop (mkF m 308 #[.val (.ref ch), .val (.int xf), .val (.int xt), .val (.int (-1 : Int32)), .val (.int iv), .val (.int ((ff iv.toInt.toNat) &&& (255 : Int32))), .val (.int (4 : Int32)), .val (.int lo), .val (.int hi), .val (.int (0 : Int32)), .val (.int (4 : Int32)), .val (.int ((ff (iv.toInt.toNat + 3)) &&& (255 : Int32)))] [])) tgt
                                  refine XS.iload X0.here hx rfl (hb hby d1_308) rfl ?_
                                  show Steps p.tables e below (s₁.setTop (mkF m 310 #[.val (.ref ch), .val (.int xf), .val (.int xt), .val (.int (-1 : Int32)), .val (.int iv), .val (.int ((ff iv.toInt.toNat) &&& (255 : Int32))), .val (.int (4 : Int32)), .val (.int lo), .val (.int hi), .val (.int (0 : Int32)), .val (.int (4 : Int32)), .val (.int ((ff (iv.toInt.toNat + 3)) &&& (255 : Int32)))] [(.int iv)])) tgt
                                  refine XS.istoreN X0.here hx rfl (hb hby d1_310) rfl (l' := #[.val (.ref ch), .val (.int xf), .val (.int xt), .val (.int iv), .val (.int iv), .val (.int ((ff iv.toInt.toNat) &&& (255 : Int32))), .val (.int (4 : Int32)), .val (.int lo), .val (.int hi), .val (.int (0 : Int32)), .val (.int (4 : Int32)), .val (.int ((ff (iv.toInt.toNat + 3)) &&& (255 : Int32)))]) rfl ?_
                                  show Steps p.tables e below (s₁.setTop (mkF m 311 #[.val (.ref ch), .val (.int xf), .val (.int xt), .val (.int iv), .val (.int iv), .val (.int ((ff iv.toInt.toNat) &&& (255 : Int32))), .val (.int (4 : Int32)), .val (.int lo), .val (.int hi), .val (.int (0 : Int32)), .val (.int (4 : Int32)), .val (.int ((ff (iv.toInt.toNat + 3)) &&& (255 : Int32)))] [])) tgt
                                  refine XS.goto X0.here hx rfl (pc0 := 311) (pc' := 5) rfl (hb hby d1_311) (by decide) (by decide) ?_
                                  exact k
                                refine own_st (V := s₁.setTop (mkF m 315 #[.val (.ref ch), .val (.int xf), .val (.int xt), .val (.int iv), .val (.int iv), .val (.int ((ff iv.toInt.toNat) &&& (255 : Int32))), .val (.int (4 : Int32)), .val (.int lo), .val (.int hi), .val (.int (0 : Int32)), .val (.int (4 : Int32)), .val (.int ((ff (iv.toInt.toNat + 3)) &&& (255 : Int32)))] [(.int iv)])) (fun tgt k => ?_) ?_
                                · show Steps p.tables e below (s₁.setTop (mkF m 5 #[.val (.ref ch), .val (.int xf), .val (.int xt), .val (.int iv), .val (.int iv), .val (.int ((ff iv.toInt.toNat) &&& (255 : Int32))), .val (.int (4 : Int32)), .val (.int lo), .val (.int hi), .val (.int (0 : Int32)), .val (.int (4 : Int32)), .val (.int ((ff (iv.toInt.toNat + 3)) &&& (255 : Int32)))] [])) tgt
                                  refine XS.iloadN X0.here hx rfl (hb hby d1_5) rfl ?_
                                  show Steps p.tables e below (s₁.setTop (mkF m 6 #[.val (.ref ch), .val (.int xf), .val (.int xt), .val (.int iv), .val (.int iv), .val (.int ((ff iv.toInt.toNat) &&& (255 : Int32))), .val (.int (4 : Int32)), .val (.int lo), .val (.int hi), .val (.int (0 : Int32)), .val (.int (4 : Int32)), .val (.int ((ff (iv.toInt.toNat + 3)) &&& (255 : Int32)))] [(.int iv)])) tgt
                                  refine XS.ifYes X0.here hx rfl (pc0 := 6) (pc' := 314) rfl (hb hby d1_6) rfl ((if0 _ _).trans (flt (by rw [own_ilt, show (0 : Int32).toInt = 0 from rfl]; omega)).2.1) (by decide) (by decide) ?_
                                  show Steps p.tables e below (s₁.setTop (mkF m 314 #[.val (.ref ch), .val (.int xf), .val (.int xt), .val (.int iv), .val (.int iv), .val (.int ((ff iv.toInt.toNat) &&& (255 : Int32))), .val (.int (4 : Int32)), .val (.int lo), .val (.int hi), .val (.int (0 : Int32)), .val (.int (4 : Int32)), .val (.int ((ff (iv.toInt.toNat + 3)) &&& (255 : Int32)))] [])) tgt
                                  refine XS.iloadN X0.here hx rfl (hb hby d1_314) rfl ?_
                                  exact k
                                refine own_retI X0 hx hlk Bd.returns (hb hby d1_315) ?_ (by decide) (by decide)
                                show Q1 Z ch xf xt ff fu h0 n0 (some (.int iv)) s₁.heap _
                                rw [e0]
                                refine ⟨?_, N0, rfl⟩
                                exact congrArg (fun q => some (Value.int q)) (by rw [← hE, own_bad hc12 (by unfold own_S own_s4; rw [if_neg hc43, if_neg hc57, if_pos hc65, if_pos hc87, if_neg hc145, ← hlo, ← hhi, if_neg hc198, if_neg hc246, if_neg hc253, if_neg hc269, if_neg hc277, if_neg hc269_2, if_pos hc277_2])])
                              · skip
                                refine own_st (V := s₁.setTop (mkF m 290 #[.val (.ref ch), .val (.int xf), .val (.int xt), .val (.int (-1 : Int32)), .val (.int iv), .val (.int ((ff iv.toInt.toNat) &&& (255 : Int32))), .val (.int (4 : Int32)), .val (.int lo), .val (.int hi), .val (.int (1 : Int32)), .val (.int ((3 : Int32) + (1 : Int32))), .val (.int ((ff (iv.toInt.toNat + 3)) &&& (255 : Int32)))] [])) (fun tgt k => ?_) ?_
                                · show Steps p.tables e below (s₁.setTop (mkF m 277 #[.val (.ref ch), .val (.int xf), .val (.int xt), .val (.int (-1 : Int32)), .val (.int iv), .val (.int ((ff iv.toInt.toNat) &&& (255 : Int32))), .val (.int (4 : Int32)), .val (.int lo), .val (.int hi), .val (.int (1 : Int32)), .val (.int (3 : Int32)), .val (.int ((ff (iv.toInt.toNat + 3)) &&& (255 : Int32)))] [(.int (191 : Int32)), (.int ((ff (iv.toInt.toNat + 3)) &&& (255 : Int32)))])) tgt
                                  refine XS.icmpNo X0.here hx rfl (hb hby d1_277) rfl (flt hc277_2).2.2.1 ?_
                                  show Steps p.tables e below (s₁.setTop (mkF m 280 #[.val (.ref ch), .val (.int xf), .val (.int xt), .val (.int (-1 : Int32)), .val (.int iv), .val (.int ((ff iv.toInt.toNat) &&& (255 : Int32))), .val (.int (4 : Int32)), .val (.int lo), .val (.int hi), .val (.int (1 : Int32)), .val (.int (3 : Int32)), .val (.int ((ff (iv.toInt.toNat + 3)) &&& (255 : Int32)))] [])) tgt
                                  refine XS.iconst X0.here hx rfl (hb hby d1_280) ?_
                                  show Steps p.tables e below (s₁.setTop (mkF m 281 #[.val (.ref ch), .val (.int xf), .val (.int xt), .val (.int (-1 : Int32)), .val (.int iv), .val (.int ((ff iv.toInt.toNat) &&& (255 : Int32))), .val (.int (4 : Int32)), .val (.int lo), .val (.int hi), .val (.int (1 : Int32)), .val (.int (3 : Int32)), .val (.int ((ff (iv.toInt.toNat + 3)) &&& (255 : Int32)))] [(.int (1 : Int32))])) tgt
                                  refine XS.goto X0.here hx rfl (pc0 := 281) (pc' := 285) rfl (hb hby d1_281) (by decide) (by decide) ?_
                                  show Steps p.tables e below (s₁.setTop (mkF m 285 #[.val (.ref ch), .val (.int xf), .val (.int xt), .val (.int (-1 : Int32)), .val (.int iv), .val (.int ((ff iv.toInt.toNat) &&& (255 : Int32))), .val (.int (4 : Int32)), .val (.int lo), .val (.int hi), .val (.int (1 : Int32)), .val (.int (3 : Int32)), .val (.int ((ff (iv.toInt.toNat + 3)) &&& (255 : Int32)))] [(.int (1 : Int32))])) tgt
                                  refine XS.istore X0.here hx rfl (hb hby d1_285) rfl (l' := #[.val (.ref ch), .val (.int xf), .val (.int xt), .val (.int (-1 : Int32)), .val (.int iv), .val (.int ((ff iv.toInt.toNat) &&& (255 : Int32))), .val (.int (4 : Int32)), .val (.int lo), .val (.int hi), .val (.int (1 : Int32)), .val (.int (3 : Int32)), .val (.int ((ff (iv.toInt.toNat + 3)) &&& (255 : Int32)))]) rfl ?_
                                  show Steps p.tables e below (s₁.setTop (mkF m 287 #[.val (.ref ch), .val (.int xf), .val (.int xt), .val (.int (-1 : Int32)), .val (.int iv), .val (.int ((ff iv.toInt.toNat) &&& (255 : Int32))), .val (.int (4 : Int32)), .val (.int lo), .val (.int hi), .val (.int (1 : Int32)), .val (.int (3 : Int32)), .val (.int ((ff (iv.toInt.toNat + 3)) &&& (255 : Int32)))] [])) tgt
                                  refine XS.iinc X0.here hx rfl (hb hby d1_287) rfl (l' := #[.val (.ref ch), .val (.int xf), .val (.int xt), .val (.int (-1 : Int32)), .val (.int iv), .val (.int ((ff iv.toInt.toNat) &&& (255 : Int32))), .val (.int (4 : Int32)), .val (.int lo), .val (.int hi), .val (.int (1 : Int32)), .val (.int ((3 : Int32) + (1 : Int32))), .val (.int ((ff (iv.toInt.toNat + 3)) &&& (255 : Int32)))]) rfl ?_
                                  exact k
                                rw [show ((3 : Int32) + (1 : Int32)) = (4 : Int32) from by decide]
                                refine own_st (V := s₁.setTop (mkF m 5 #[.val (.ref ch), .val (.int xf), .val (.int xt), .val (.int (-1 : Int32)), .val (.int (iv + (4 : Int32))), .val (.int ((ff iv.toInt.toNat) &&& (255 : Int32))), .val (.int (4 : Int32)), .val (.int lo), .val (.int hi), .val (.int (1 : Int32)), .val (.int (4 : Int32)), .val (.int ((ff (iv.toInt.toNat + 3)) &&& (255 : Int32)))] [])) (fun tgt k => ?_) ?_
                                · show Steps p.tables e below (s₁.setTop (mkF m 290 #[.val (.ref ch), .val (.int xf), .val (.int xt), .val (.int (-1 : Int32)), .val (.int iv), .val (.int ((ff iv.toInt.toNat) &&& (255 : Int32))), .val (.int (4 : Int32)), .val (.int lo), .val (.int hi), .val (.int (1 : Int32)), .val (.int (4 : Int32)), .val (.int ((ff (iv.toInt.toNat + 3)) &&& (255 : Int32)))] [])) tgt
                                  refine XS.goto X0.here hx rfl (pc0 := 290) (pc' := 211) rfl (hb hby d1_290) (by decide) (by decide) ?_
                                  show Steps p.tables e below (s₁.setTop (mkF m 211 #[.val (.ref ch), .val (.int xf), .val (.int xt), .val (.int (-1 : Int32)), .val (.int iv), .val (.int ((ff iv.toInt.toNat) &&& (255 : Int32))), .val (.int (4 : Int32)), .val (.int lo), .val (.int hi), .val (.int (1 : Int32)), .val (.int (4 : Int32)), .val (.int ((ff (iv.toInt.toNat + 3)) &&& (255 : Int32)))] [])) tgt
                                  refine XS.iload X0.here hx rfl (hb hby d1_211) rfl ?_
                                  show Steps p.tables e below (s₁.setTop (mkF m 213 #[.val (.ref ch), .val (.int xf), .val (.int xt), .val (.int (-1 : Int32)), .val (.int iv), .val (.int ((ff iv.toInt.toNat) &&& (255 : Int32))), .val (.int (4 : Int32)), .val (.int lo), .val (.int hi), .val (.int (1 : Int32)), .val (.int (4 : Int32)), .val (.int ((ff (iv.toInt.toNat + 3)) &&& (255 : Int32)))] [(.int (1 : Int32))])) tgt
                                  refine XS.ifNo X0.here hx rfl (hb hby d1_213) rfl ((if0 _ _).trans (feq (by decide : ¬ ((1 : Int32) = (0 : Int32)))).1) ?_
                                  show Steps p.tables e below (s₁.setTop (mkF m 216 #[.val (.ref ch), .val (.int xf), .val (.int xt), .val (.int (-1 : Int32)), .val (.int iv), .val (.int ((ff iv.toInt.toNat) &&& (255 : Int32))), .val (.int (4 : Int32)), .val (.int lo), .val (.int hi), .val (.int (1 : Int32)), .val (.int (4 : Int32)), .val (.int ((ff (iv.toInt.toNat + 3)) &&& (255 : Int32)))] [])) tgt
                                  refine XS.iload X0.here hx rfl (hb hby d1_216) rfl ?_
                                  show Steps p.tables e below (s₁.setTop (mkF m 218 #[.val (.ref ch), .val (.int xf), .val (.int xt), .val (.int (-1 : Int32)), .val (.int iv), .val (.int ((ff iv.toInt.toNat) &&& (255 : Int32))), .val (.int (4 : Int32)), .val (.int lo), .val (.int hi), .val (.int (1 : Int32)), .val (.int (4 : Int32)), .val (.int ((ff (iv.toInt.toNat + 3)) &&& (255 : Int32)))] [(.int (4 : Int32))])) tgt
                                  refine XS.iload X0.here hx rfl (hb hby d1_218) rfl ?_
                                  show Steps p.tables e below (s₁.setTop (mkF m 220 #[.val (.ref ch), .val (.int xf), .val (.int xt), .val (.int (-1 : Int32)), .val (.int iv), .val (.int ((ff iv.toInt.toNat) &&& (255 : Int32))), .val (.int (4 : Int32)), .val (.int lo), .val (.int hi), .val (.int (1 : Int32)), .val (.int (4 : Int32)), .val (.int ((ff (iv.toInt.toNat + 3)) &&& (255 : Int32)))] [(.int (4 : Int32)), (.int (4 : Int32))])) tgt
                                  refine XS.icmpYes X0.here hx rfl (pc0 := 220) (pc' := 293) rfl (hb hby d1_220) rfl (flt (by decide : ¬ ((4 : Int32) < (4 : Int32)))).2.1 (by decide) (by decide) ?_
                                  show Steps p.tables e below (s₁.setTop (mkF m 293 #[.val (.ref ch), .val (.int xf), .val (.int xt), .val (.int (-1 : Int32)), .val (.int iv), .val (.int ((ff iv.toInt.toNat) &&& (255 : Int32))), .val (.int (4 : Int32)), .val (.int lo), .val (.int hi), .val (.int (1 : Int32)), .val (.int (4 : Int32)), .val (.int ((ff (iv.toInt.toNat + 3)) &&& (255 : Int32)))] [])) tgt
                                  refine XS.iload X0.here hx rfl (hb hby d1_293) rfl ?_
                                  show Steps p.tables e below (s₁.setTop (mkF m 295 #[.val (.ref ch), .val (.int xf), .val (.int xt), .val (.int (-1 : Int32)), .val (.int iv), .val (.int ((ff iv.toInt.toNat) &&& (255 : Int32))), .val (.int (4 : Int32)), .val (.int lo), .val (.int hi), .val (.int (1 : Int32)), .val (.int (4 : Int32)), .val (.int ((ff (iv.toInt.toNat + 3)) &&& (255 : Int32)))] [(.int (1 : Int32))])) tgt
                                  refine XS.ifNo X0.here hx rfl (hb hby d1_295) rfl ((if0 _ _).trans (feq (by decide : ¬ ((1 : Int32) = (0 : Int32)))).1) ?_
                                  show Steps p.tables e below (s₁.setTop (mkF m 298 #[.val (.ref ch), .val (.int xf), .val (.int xt), .val (.int (-1 : Int32)), .val (.int iv), .val (.int ((ff iv.toInt.toNat) &&& (255 : Int32))), .val (.int (4 : Int32)), .val (.int lo), .val (.int hi), .val (.int (1 : Int32)), .val (.int (4 : Int32)), .val (.int ((ff (iv.toInt.toNat + 3)) &&& (255 : Int32)))] [])) tgt
                                  refine XS.iload X0.here hx rfl (hb hby d1_298) rfl ?_
                                  show Steps p.tables e below (s₁.setTop (mkF m 300 #[.val (.ref ch), .val (.int xf), .val (.int xt), .val (.int (-1 : Int32)), .val (.int iv), .val (.int ((ff iv.toInt.toNat) &&& (255 : Int32))), .val (.int (4 : Int32)), .val (.int lo), .val (.int hi), .val (.int (1 : Int32)), .val (.int (4 : Int32)), .val (.int ((ff (iv.toInt.toNat + 3)) &&& (255 : Int32)))] [(.int iv)])) tgt
                                  refine XS.iload X0.here hx rfl (hb hby d1_300) rfl ?_
                                  show Steps p.tables e below (s₁.setTop (mkF m 302 #[.val (.ref ch), .val (.int xf), .val (.int xt), .val (.int (-1 : Int32)), .val (.int iv), .val (.int ((ff iv.toInt.toNat) &&& (255 : Int32))), .val (.int (4 : Int32)), .val (.int lo), .val (.int hi), .val (.int (1 : Int32)), .val (.int (4 : Int32)), .val (.int ((ff (iv.toInt.toNat + 3)) &&& (255 : Int32)))] [(.int (4 : Int32)), (.int iv)])) tgt
                                  refine XS.iadd X0.here hx rfl (hb hby d1_302) rfl ?_
                                  show Steps p.tables e below (s₁.setTop (mkF m 303 #[.val (.ref ch), .val (.int xf), .val (.int xt), .val (.int (-1 : Int32)), .val (.int iv), .val (.int ((ff iv.toInt.toNat) &&& (255 : Int32))), .val (.int (4 : Int32)), .val (.int lo), .val (.int hi), .val (.int (1 : Int32)), .val (.int (4 : Int32)), .val (.int ((ff (iv.toInt.toNat + 3)) &&& (255 : Int32)))] [(.int (iv + (4 : Int32)))])) tgt
                                  refine XS.istore X0.here hx rfl (hb hby d1_303) rfl (l' := #[.val (.ref ch), .val (.int xf), .val (.int xt), .val (.int (-1 : Int32)), .val (.int (iv + (4 : Int32))), .val (.int ((ff iv.toInt.toNat) &&& (255 : Int32))), .val (.int (4 : Int32)), .val (.int lo), .val (.int hi), .val (.int (1 : Int32)), .val (.int (4 : Int32)), .val (.int ((ff (iv.toInt.toNat + 3)) &&& (255 : Int32)))]) rfl ?_
                                  show Steps p.tables e below (s₁.setTop (mkF m 305 #[.val (.ref ch), .val (.int xf), .val (.int xt), .val (.int (-1 : Int32)), .val (.int (iv + (4 : Int32))), .val (.int ((ff iv.toInt.toNat) &&& (255 : Int32))), .val (.int (4 : Int32)), .val (.int lo), .val (.int hi), .val (.int (1 : Int32)), .val (.int (4 : Int32)), .val (.int ((ff (iv.toInt.toNat + 3)) &&& (255 : Int32)))] [])) tgt
                                  refine XS.goto X0.here hx rfl (pc0 := 305) (pc' := 311) rfl (hb hby d1_305) (by decide) (by decide) ?_
                                  show Steps p.tables e below (s₁.setTop (mkF m 311 #[.val (.ref ch), .val (.int xf), .val (.int xt), .val (.int (-1 : Int32)), .val (.int (iv + (4 : Int32))), .val (.int ((ff iv.toInt.toNat) &&& (255 : Int32))), .val (.int (4 : Int32)), .val (.int lo), .val (.int hi), .val (.int (1 : Int32)), .val (.int (4 : Int32)), .val (.int ((ff (iv.toInt.toNat + 3)) &&& (255 : Int32)))] [])) tgt
                                  refine XS.goto X0.here hx rfl (pc0 := 311) (pc' := 5) rfl (hb hby d1_311) (by decide) (by decide) ?_
                                  exact k
                                have hS : own_S ff iv xt = (4 : Int32) := by unfold own_S own_s4; rw [if_neg hc43, if_neg hc57, if_pos hc65, if_pos hc87, if_neg hc145, ← hlo, ← hhi, if_neg hc198, if_neg hc246, if_neg hc253, if_neg hc269, if_neg hc277, if_neg hc269_2, if_neg hc277_2]
                                exact ih (iv + (4 : Int32)) _ _ _ _ _ _ _ (One.val rfl) (One.val rfl) (One.val rfl) (One.val rfl) (One.val rfl) (One.val rfl) (One.val rfl) (by rw [a4]; omega) (by rw [a4]; have := hfit; omega) (by rw [a4]; omega) ((own_good hc12 hS (by decide)).symm.trans hE)
              · skip
                refine own_st (V := s₁.setTop (mkF m 98 #[.val (.ref ch), .val (.int xf), .val (.int xt), .val (.int (-1 : Int32)), .val (.int iv), .val (.int ((ff iv.toInt.toNat) &&& (255 : Int32))), .val (.int (3 : Int32)), .val (.int (128 : Int32)), .val (.int (191 : Int32)), s9, s10, s11] [(.int (224 : Int32)), (.int ((ff iv.toInt.toNat) &&& (255 : Int32)))])) (fun tgt k => ?_) ?_
                · show Steps p.tables e below (s₁.setTop (mkF m 87 #[.val (.ref ch), .val (.int xf), .val (.int xt), .val (.int (-1 : Int32)), .val (.int iv), .val (.int ((ff iv.toInt.toNat) &&& (255 : Int32))), .val (.int (0 : Int32)), .val (.int (128 : Int32)), .val (.int (191 : Int32)), s9, s10, s11] [(.int (239 : Int32)), (.int ((ff iv.toInt.toNat) &&& (255 : Int32)))])) tgt
                  refine XS.icmpNo X0.here hx rfl (hb hby d1_87) rfl (flt hc87).2.2.1 ?_
                  show Steps p.tables e below (s₁.setTop (mkF m 90 #[.val (.ref ch), .val (.int xf), .val (.int xt), .val (.int (-1 : Int32)), .val (.int iv), .val (.int ((ff iv.toInt.toNat) &&& (255 : Int32))), .val (.int (0 : Int32)), .val (.int (128 : Int32)), .val (.int (191 : Int32)), s9, s10, s11] [])) tgt
                  refine XS.iconst X0.here hx rfl (hb hby d1_90) ?_
                  show Steps p.tables e below (s₁.setTop (mkF m 91 #[.val (.ref ch), .val (.int xf), .val (.int xt), .val (.int (-1 : Int32)), .val (.int iv), .val (.int ((ff iv.toInt.toNat) &&& (255 : Int32))), .val (.int (0 : Int32)), .val (.int (128 : Int32)), .val (.int (191 : Int32)), s9, s10, s11] [(.int (3 : Int32))])) tgt
                  refine XS.istore X0.here hx rfl (hb hby d1_91) rfl (l' := #[.val (.ref ch), .val (.int xf), .val (.int xt), .val (.int (-1 : Int32)), .val (.int iv), .val (.int ((ff iv.toInt.toNat) &&& (255 : Int32))), .val (.int (3 : Int32)), .val (.int (128 : Int32)), .val (.int (191 : Int32)), s9, s10, s11]) rfl ?_
                  show Steps p.tables e below (s₁.setTop (mkF m 93 #[.val (.ref ch), .val (.int xf), .val (.int xt), .val (.int (-1 : Int32)), .val (.int iv), .val (.int ((ff iv.toInt.toNat) &&& (255 : Int32))), .val (.int (3 : Int32)), .val (.int (128 : Int32)), .val (.int (191 : Int32)), s9, s10, s11] [])) tgt
                  refine XS.iload X0.here hx rfl (hb hby d1_93) rfl ?_
                  show Steps p.tables e below (s₁.setTop (mkF m 95 #[.val (.ref ch), .val (.int xf), .val (.int xt), .val (.int (-1 : Int32)), .val (.int iv), .val (.int ((ff iv.toInt.toNat) &&& (255 : Int32))), .val (.int (3 : Int32)), .val (.int (128 : Int32)), .val (.int (191 : Int32)), s9, s10, s11] [(.int ((ff iv.toInt.toNat) &&& (255 : Int32)))])) tgt
                  refine XS.sipush X0.here hx rfl (hb hby d1_95) ?_
                  exact k
                obtain ⟨lo, hlo⟩ : ∃ z : Int32, z = (if ((ff iv.toInt.toNat) &&& (255 : Int32)) = (224 : Int32) then (160 : Int32) else (128 : Int32)) := ⟨_, rfl⟩
                refine own_st (V := s₁.setTop (mkF m 109 #[.val (.ref ch), .val (.int xf), .val (.int xt), .val (.int (-1 : Int32)), .val (.int iv), .val (.int ((ff iv.toInt.toNat) &&& (255 : Int32))), .val (.int (3 : Int32)), .val (.int (128 : Int32)), .val (.int (191 : Int32)), s9, s10, s11] [(.int lo)])) (fun tgt k => ?_) ?_
                · skip
                  by_cases hc98_2 : ((ff iv.toInt.toNat) &&& (255 : Int32)) = (224 : Int32)
                  · skip
                    rw [if_pos hc98_2] at hlo
                    show Steps p.tables e below (s₁.setTop (mkF m 98 #[.val (.ref ch), .val (.int xf), .val (.int xt), .val (.int (-1 : Int32)), .val (.int iv), .val (.int ((ff iv.toInt.toNat) &&& (255 : Int32))), .val (.int (3 : Int32)), .val (.int (128 : Int32)), .val (.int (191 : Int32)), s9, s10, s11] [(.int (224 : Int32)), (.int ((ff iv.toInt.toNat) &&& (255 : Int32)))])) tgt
                    refine XS.icmpNo X0.here hx rfl (hb hby d1_98) rfl (teq hc98_2).2 ?_
                    show Steps p.tables e below (s₁.setTop (mkF m 101 #[.val (.ref ch), .val (.int xf), .val (.int xt), .val (.int (-1 : Int32)), .val (.int iv), .val (.int ((ff iv.toInt.toNat) &&& (255 : Int32))), .val (.int (3 : Int32)), .val (.int (128 : Int32)), .val (.int (191 : Int32)), s9, s10, s11] [])) tgt
                    refine XS.sipush X0.here hx rfl (hb hby d1_101) ?_
                    show Steps p.tables e below (s₁.setTop (mkF m 104 #[.val (.ref ch), .val (.int xf), .val (.int xt), .val (.int (-1 : Int32)), .val (.int iv), .val (.int ((ff iv.toInt.toNat) &&& (255 : Int32))), .val (.int (3 : Int32)), .val (.int (128 : Int32)), .val (.int (191 : Int32)), s9, s10, s11] [(.int (160 : Int32))])) tgt
                    refine XS.goto X0.here hx rfl (pc0 := 104) (pc' := 109) rfl (hb hby d1_104) (by decide) (by decide) ?_
                    rw [hlo] at k
                    exact k
                  · skip
                    rw [if_neg hc98_2] at hlo
                    show Steps p.tables e below (s₁.setTop (mkF m 98 #[.val (.ref ch), .val (.int xf), .val (.int xt), .val (.int (-1 : Int32)), .val (.int iv), .val (.int ((ff iv.toInt.toNat) &&& (255 : Int32))), .val (.int (3 : Int32)), .val (.int (128 : Int32)), .val (.int (191 : Int32)), s9, s10, s11] [(.int (224 : Int32)), (.int ((ff iv.toInt.toNat) &&& (255 : Int32)))])) tgt
                    refine XS.icmpYes X0.here hx rfl (pc0 := 98) (pc' := 107) rfl (hb hby d1_98) rfl (feq hc98_2).2 (by decide) (by decide) ?_
                    show Steps p.tables e below (s₁.setTop (mkF m 107 #[.val (.ref ch), .val (.int xf), .val (.int xt), .val (.int (-1 : Int32)), .val (.int iv), .val (.int ((ff iv.toInt.toNat) &&& (255 : Int32))), .val (.int (3 : Int32)), .val (.int (128 : Int32)), .val (.int (191 : Int32)), s9, s10, s11] [])) tgt
                    refine XS.iload X0.here hx rfl (hb hby d1_107) rfl ?_
                    rw [hlo] at k
                    exact k
                refine own_st (V := s₁.setTop (mkF m 116 #[.val (.ref ch), .val (.int xf), .val (.int xt), .val (.int (-1 : Int32)), .val (.int iv), .val (.int ((ff iv.toInt.toNat) &&& (255 : Int32))), .val (.int (3 : Int32)), .val (.int lo), .val (.int (191 : Int32)), s9, s10, s11] [(.int (237 : Int32)), (.int ((ff iv.toInt.toNat) &&& (255 : Int32)))])) (fun tgt k => ?_) ?_
                · show Steps p.tables e below (s₁.setTop (mkF m 109 #[.val (.ref ch), .val (.int xf), .val (.int xt), .val (.int (-1 : Int32)), .val (.int iv), .val (.int ((ff iv.toInt.toNat) &&& (255 : Int32))), .val (.int (3 : Int32)), .val (.int (128 : Int32)), .val (.int (191 : Int32)), s9, s10, s11] [(.int lo)])) tgt
                  refine XS.istore X0.here hx rfl (hb hby d1_109) rfl (l' := #[.val (.ref ch), .val (.int xf), .val (.int xt), .val (.int (-1 : Int32)), .val (.int iv), .val (.int ((ff iv.toInt.toNat) &&& (255 : Int32))), .val (.int (3 : Int32)), .val (.int lo), .val (.int (191 : Int32)), s9, s10, s11]) rfl ?_
                  show Steps p.tables e below (s₁.setTop (mkF m 111 #[.val (.ref ch), .val (.int xf), .val (.int xt), .val (.int (-1 : Int32)), .val (.int iv), .val (.int ((ff iv.toInt.toNat) &&& (255 : Int32))), .val (.int (3 : Int32)), .val (.int lo), .val (.int (191 : Int32)), s9, s10, s11] [])) tgt
                  refine XS.iload X0.here hx rfl (hb hby d1_111) rfl ?_
                  show Steps p.tables e below (s₁.setTop (mkF m 113 #[.val (.ref ch), .val (.int xf), .val (.int xt), .val (.int (-1 : Int32)), .val (.int iv), .val (.int ((ff iv.toInt.toNat) &&& (255 : Int32))), .val (.int (3 : Int32)), .val (.int lo), .val (.int (191 : Int32)), s9, s10, s11] [(.int ((ff iv.toInt.toNat) &&& (255 : Int32)))])) tgt
                  refine XS.sipush X0.here hx rfl (hb hby d1_113) ?_
                  exact k
                obtain ⟨hi, hhi⟩ : ∃ z : Int32, z = (if ((ff iv.toInt.toNat) &&& (255 : Int32)) = (237 : Int32) then (159 : Int32) else (191 : Int32)) := ⟨_, rfl⟩
                refine own_st (V := s₁.setTop (mkF m 127 #[.val (.ref ch), .val (.int xf), .val (.int xt), .val (.int (-1 : Int32)), .val (.int iv), .val (.int ((ff iv.toInt.toNat) &&& (255 : Int32))), .val (.int (3 : Int32)), .val (.int lo), .val (.int (191 : Int32)), s9, s10, s11] [(.int hi)])) (fun tgt k => ?_) ?_
                · skip
                  by_cases hc116_2 : ((ff iv.toInt.toNat) &&& (255 : Int32)) = (237 : Int32)
                  · skip
                    rw [if_pos hc116_2] at hhi
                    show Steps p.tables e below (s₁.setTop (mkF m 116 #[.val (.ref ch), .val (.int xf), .val (.int xt), .val (.int (-1 : Int32)), .val (.int iv), .val (.int ((ff iv.toInt.toNat) &&& (255 : Int32))), .val (.int (3 : Int32)), .val (.int lo), .val (.int (191 : Int32)), s9, s10, s11] [(.int (237 : Int32)), (.int ((ff iv.toInt.toNat) &&& (255 : Int32)))])) tgt
                    refine XS.icmpNo X0.here hx rfl (hb hby d1_116) rfl (teq hc116_2).2 ?_
                    show Steps p.tables e below (s₁.setTop (mkF m 119 #[.val (.ref ch), .val (.int xf), .val (.int xt), .val (.int (-1 : Int32)), .val (.int iv), .val (.int ((ff iv.toInt.toNat) &&& (255 : Int32))), .val (.int (3 : Int32)), .val (.int lo), .val (.int (191 : Int32)), s9, s10, s11] [])) tgt
                    refine XS.sipush X0.here hx rfl (hb hby d1_119) ?_
                    show Steps p.tables e below (s₁.setTop (mkF m 122 #[.val (.ref ch), .val (.int xf), .val (.int xt), .val (.int (-1 : Int32)), .val (.int iv), .val (.int ((ff iv.toInt.toNat) &&& (255 : Int32))), .val (.int (3 : Int32)), .val (.int lo), .val (.int (191 : Int32)), s9, s10, s11] [(.int (159 : Int32))])) tgt
                    refine XS.goto X0.here hx rfl (pc0 := 122) (pc' := 127) rfl (hb hby d1_122) (by decide) (by decide) ?_
                    rw [hhi] at k
                    exact k
                  · skip
                    rw [if_neg hc116_2] at hhi
                    show Steps p.tables e below (s₁.setTop (mkF m 116 #[.val (.ref ch), .val (.int xf), .val (.int xt), .val (.int (-1 : Int32)), .val (.int iv), .val (.int ((ff iv.toInt.toNat) &&& (255 : Int32))), .val (.int (3 : Int32)), .val (.int lo), .val (.int (191 : Int32)), s9, s10, s11] [(.int (237 : Int32)), (.int ((ff iv.toInt.toNat) &&& (255 : Int32)))])) tgt
                    refine XS.icmpYes X0.here hx rfl (pc0 := 116) (pc' := 125) rfl (hb hby d1_116) rfl (feq hc116_2).2 (by decide) (by decide) ?_
                    show Steps p.tables e below (s₁.setTop (mkF m 125 #[.val (.ref ch), .val (.int xf), .val (.int xt), .val (.int (-1 : Int32)), .val (.int iv), .val (.int ((ff iv.toInt.toNat) &&& (255 : Int32))), .val (.int (3 : Int32)), .val (.int lo), .val (.int (191 : Int32)), s9, s10, s11] [])) tgt
                    refine XS.iload X0.here hx rfl (hb hby d1_125) rfl ?_
                    rw [hhi] at k
                    exact k
                refine own_st (V := s₁.setTop (mkF m 198 #[.val (.ref ch), .val (.int xf), .val (.int xt), .val (.int (-1 : Int32)), .val (.int iv), .val (.int ((ff iv.toInt.toNat) &&& (255 : Int32))), .val (.int (3 : Int32)), .val (.int lo), .val (.int hi), s9, s10, s11] [(.int xt), (.int (iv + (3 : Int32)))])) (fun tgt k => ?_) ?_
                · show Steps p.tables e below (s₁.setTop (mkF m 127 #[.val (.ref ch), .val (.int xf), .val (.int xt), .val (.int (-1 : Int32)), .val (.int iv), .val (.int ((ff iv.toInt.toNat) &&& (255 : Int32))), .val (.int (3 : Int32)), .val (.int lo), .val (.int (191 : Int32)), s9, s10, s11] [(.int hi)])) tgt
                  refine XS.istore X0.here hx rfl (hb hby d1_127) rfl (l' := #[.val (.ref ch), .val (.int xf), .val (.int xt), .val (.int (-1 : Int32)), .val (.int iv), .val (.int ((ff iv.toInt.toNat) &&& (255 : Int32))), .val (.int (3 : Int32)), .val (.int lo), .val (.int hi), s9, s10, s11]) rfl ?_
                  show Steps p.tables e below (s₁.setTop (mkF m 129 #[.val (.ref ch), .val (.int xf), .val (.int xt), .val (.int (-1 : Int32)), .val (.int iv), .val (.int ((ff iv.toInt.toNat) &&& (255 : Int32))), .val (.int (3 : Int32)), .val (.int lo), .val (.int hi), s9, s10, s11] [])) tgt
                  refine XS.goto X0.here hx rfl (pc0 := 129) (pc' := 187) rfl (hb hby d1_129) (by decide) (by decide) ?_
                  show Steps p.tables e below (s₁.setTop (mkF m 187 #[.val (.ref ch), .val (.int xf), .val (.int xt), .val (.int (-1 : Int32)), .val (.int iv), .val (.int ((ff iv.toInt.toNat) &&& (255 : Int32))), .val (.int (3 : Int32)), .val (.int lo), .val (.int hi), s9, s10, s11] [])) tgt
                  refine XS.iload X0.here hx rfl (hb hby d1_187) rfl ?_
                  show Steps p.tables e below (s₁.setTop (mkF m 189 #[.val (.ref ch), .val (.int xf), .val (.int xt), .val (.int (-1 : Int32)), .val (.int iv), .val (.int ((ff iv.toInt.toNat) &&& (255 : Int32))), .val (.int (3 : Int32)), .val (.int lo), .val (.int hi), s9, s10, s11] [(.int (3 : Int32))])) tgt
                  refine XS.ifNo X0.here hx rfl (hb hby d1_189) rfl ((if0 _ _).trans (tlt (by decide : (0 : Int32) < (3 : Int32))).2.2.2) ?_
                  show Steps p.tables e below (s₁.setTop (mkF m 192 #[.val (.ref ch), .val (.int xf), .val (.int xt), .val (.int (-1 : Int32)), .val (.int iv), .val (.int ((ff iv.toInt.toNat) &&& (255 : Int32))), .val (.int (3 : Int32)), .val (.int lo), .val (.int hi), s9, s10, s11] [])) tgt
                  refine XS.iload X0.here hx rfl (hb hby d1_192) rfl ?_
                  show Steps p.tables e below (s₁.setTop (mkF m 194 #[.val (.ref ch), .val (.int xf), .val (.int xt), .val (.int (-1 : Int32)), .val (.int iv), .val (.int ((ff iv.toInt.toNat) &&& (255 : Int32))), .val (.int (3 : Int32)), .val (.int lo), .val (.int hi), s9, s10, s11] [(.int iv)])) tgt
                  refine XS.iload X0.here hx rfl (hb hby d1_194) rfl ?_
                  show Steps p.tables e below (s₁.setTop (mkF m 196 #[.val (.ref ch), .val (.int xf), .val (.int xt), .val (.int (-1 : Int32)), .val (.int iv), .val (.int ((ff iv.toInt.toNat) &&& (255 : Int32))), .val (.int (3 : Int32)), .val (.int lo), .val (.int hi), s9, s10, s11] [(.int (3 : Int32)), (.int iv)])) tgt
                  refine XS.iadd X0.here hx rfl (hb hby d1_196) rfl ?_
                  show Steps p.tables e below (s₁.setTop (mkF m 197 #[.val (.ref ch), .val (.int xf), .val (.int xt), .val (.int (-1 : Int32)), .val (.int iv), .val (.int ((ff iv.toInt.toNat) &&& (255 : Int32))), .val (.int (3 : Int32)), .val (.int lo), .val (.int hi), s9, s10, s11] [(.int (iv + (3 : Int32)))])) tgt
                  refine XS.iloadN X0.here hx rfl (hb hby d1_197) rfl ?_
                  exact k
                by_cases hc198 : xt < (iv + (3 : Int32))
                · skip
                  refine own_st (V := s₁.setTop (mkF m 5 #[.val (.ref ch), .val (.int xf), .val (.int xt), .val (.int iv), .val (.int iv), .val (.int ((ff iv.toInt.toNat) &&& (255 : Int32))), .val (.int (3 : Int32)), .val (.int lo), .val (.int hi), .val (.int (0 : Int32)), .val (.int (1 : Int32)), s11] [])) (fun tgt k => ?_) ?_
                  · show Steps p.tables e below (s₁.setTop (mkF m 198 #[.val (.ref ch), .val (.int xf), .val (.int xt), .val (.int (-1 : Int32)), .val (.int iv), .val (.int ((ff iv.toInt.toNat) &&& (255 : Int32))), .val (.int (3 : Int32)), .val (.int lo), .val (.int hi), s9, s10, s11] [(.int xt), (.int (iv + (3 : Int32)))])) tgt
                    refine XS.icmpYes X0.here hx rfl (pc0 := 198) (pc' := 205) rfl (hb hby d1_198) rfl (tlt hc198).2.2.1 (by decide) (by decide) ?_
                    show Steps p.tables e below (s₁.setTop (mkF m 205 #[.val (.ref ch), .val (.int xf), .val (.int xt), .val (.int (-1 : Int32)), .val (.int iv), .val (.int ((ff iv.toInt.toNat) &&& (255 : Int32))), .val (.int (3 : Int32)), .val (.int lo), .val (.int hi), s9, s10, s11] [])) tgt
                    refine XS.iconst X0.here hx rfl (hb hby d1_205) ?_
                    show Steps p.tables e below (s₁.setTop (mkF m 206 #[.val (.ref ch), .val (.int xf), .val (.int xt), .val (.int (-1 : Int32)), .val (.int iv), .val (.int ((ff iv.toInt.toNat) &&& (255 : Int32))), .val (.int (3 : Int32)), .val (.int lo), .val (.int hi), s9, s10, s11] [(.int (0 : Int32))])) tgt
                    refine XS.istoreS X0.here hx rfl (hb hby d1_206) rfl rfl o9 ?_
                    show Steps p.tables e below (s₁.setTop (mkF m 208 #[.val (.ref ch), .val (.int xf), .val (.int xt), .val (.int (-1 : Int32)), .val (.int iv), .val (.int ((ff iv.toInt.toNat) &&& (255 : Int32))), .val (.int (3 : Int32)), .val (.int lo), .val (.int hi), .val (.int (0 : Int32)), s10, s11] [])) tgt
                    refine XS.iconst X0.here hx rfl (hb hby d1_208) ?_
                    show Steps p.tables e below (s₁.setTop (mkF m 209 #[.val (.ref ch), .val (.int xf), .val (.int xt), .val (.int (-1 : Int32)), .val (.int iv), .val (.int ((ff iv.toInt.toNat) &&& (255 : Int32))), .val (.int (3 : Int32)), .val (.int lo), .val (.int hi), .val (.int (0 : Int32)), s10, s11] [(.int (1 : Int32))])) tgt
                    refine XS.istoreS X0.here hx rfl (hb hby d1_209) rfl rfl o10 ?_
                    show Steps p.tables e below (s₁.setTop (mkF m 211 #[.val (.ref ch), .val (.int xf), .val (.int xt), .val (.int (-1 : Int32)), .val (.int iv), .val (.int ((ff iv.toInt.toNat) &&& (255 : Int32))), .val (.int (3 : Int32)), .val (.int lo), .val (.int hi), .val (.int (0 : Int32)), .val (.int (1 : Int32)), s11] [])) tgt
                    refine XS.iload X0.here hx rfl (hb hby d1_211) rfl ?_
                    show Steps p.tables e below (s₁.setTop (mkF m 213 #[.val (.ref ch), .val (.int xf), .val (.int xt), .val (.int (-1 : Int32)), .val (.int iv), .val (.int ((ff iv.toInt.toNat) &&& (255 : Int32))), .val (.int (3 : Int32)), .val (.int lo), .val (.int hi), .val (.int (0 : Int32)), .val (.int (1 : Int32)), s11] [(.int (0 : Int32))])) tgt
                    refine XS.ifYes X0.here hx rfl (pc0 := 213) (pc' := 293) rfl (hb hby d1_213) rfl ((if0 _ _).trans (teq (by decide : (0 : Int32) = (0 : Int32))).1) (by decide) (by decide) ?_
                    show Steps p.tables e below (s₁.setTop (mkF m 293 #[.val (.ref ch), .val (.int xf), .val (.int xt), .val (.int (-1 : Int32)), .val (.int iv), .val (.int ((ff iv.toInt.toNat) &&& (255 : Int32))), .val (.int (3 : Int32)), .val (.int lo), .val (.int hi), .val (.int (0 : Int32)), .val (.int (1 : Int32)), s11] [])) tgt
                    refine XS.iload X0.here hx rfl (hb hby d1_293) rfl ?_
                    show Steps p.tables e below (s₁.setTop (mkF m 295 #[.val (.ref ch), .val (.int xf), .val (.int xt), .val (.int (-1 : Int32)), .val (.int iv), .val (.int ((ff iv.toInt.toNat) &&& (255 : Int32))), .val (.int (3 : Int32)), .val (.int lo), .val (.int hi), .val (.int (0 : Int32)), .val (.int (1 : Int32)), s11] [(.int (0 : Int32))])) tgt
                    refine XS.ifYes X0.here hx rfl (pc0 := 295) (pc' := 308) rfl (hb hby d1_295) rfl ((if0 _ _).trans (teq (by decide : (0 : Int32) = (0 : Int32))).1) (by decide) (by decide) ?_
                    show Steps p.tables e below (s₁.setTop (mkF m 308 #[.val (.ref ch), .val (.int xf), .val (.int xt), .val (.int (-1 : Int32)), .val (.int iv), .val (.int ((ff iv.toInt.toNat) &&& (255 : Int32))), .val (.int (3 : Int32)), .val (.int lo), .val (.int hi), .val (.int (0 : Int32)), .val (.int (1 : Int32)), s11] [])) tgt
                    refine XS.iload X0.here hx rfl (hb hby d1_308) rfl ?_
                    show Steps p.tables e below (s₁.setTop (mkF m 310 #[.val (.ref ch), .val (.int xf), .val (.int xt), .val (.int (-1 : Int32)), .val (.int iv), .val (.int ((ff iv.toInt.toNat) &&& (255 : Int32))), .val (.int (3 : Int32)), .val (.int lo), .val (.int hi), .val (.int (0 : Int32)), .val (.int (1 : Int32)), s11] [(.int iv)])) tgt
                    refine XS.istoreN X0.here hx rfl (hb hby d1_310) rfl (l' := #[.val (.ref ch), .val (.int xf), .val (.int xt), .val (.int iv), .val (.int iv), .val (.int ((ff iv.toInt.toNat) &&& (255 : Int32))), .val (.int (3 : Int32)), .val (.int lo), .val (.int hi), .val (.int (0 : Int32)), .val (.int (1 : Int32)), s11]) rfl ?_
                    show Steps p.tables e below (s₁.setTop (mkF m 311 #[.val (.ref ch), .val (.int xf), .val (.int xt), .val (.int iv), .val (.int iv), .val (.int ((ff iv.toInt.toNat) &&& (255 : Int32))), .val (.int (3 : Int32)), .val (.int lo), .val (.int hi), .val (.int (0 : Int32)), .val (.int (1 : Int32)), s11] [])) tgt
                    refine XS.goto X0.here hx rfl (pc0 := 311) (pc' := 5) rfl (hb hby d1_311) (by decide) (by decide) ?_
                    exact k
                  refine own_st (V := s₁.setTop (mkF m 315 #[.val (.ref ch), .val (.int xf), .val (.int xt), .val (.int iv), .val (.int iv), .val (.int ((ff iv.toInt.toNat) &&& (255 : Int32))), .val (.int (3 : Int32)), .val (.int lo), .val (.int hi), .val (.int (0 : Int32)), .val (.int (1 : Int32)), s11] [(.int iv)])) (fun tgt k => ?_) ?_
                  · show Steps p.tables e below (s₁.setTop (mkF m 5 #[.val (.ref ch), .val (.int xf), .val (.int xt), .val (.int iv), .val (.int iv), .val (.int ((ff iv.toInt.toNat) &&& (255 : Int32))), .val (.int (3 : Int32)), .val (.int lo), .val (.int hi), .val (.int (0 : Int32)), .val (.int (1 : Int32)), s11] [])) tgt
                    refine XS.iloadN X0.here hx rfl (hb hby d1_5) rfl ?_
                    show Steps p.tables e below (s₁.setTop (mkF m 6 #[.val (.ref ch), .val (.int xf), .val (.int xt), .val (.int iv), .val (.int iv), .val (.int ((ff iv.toInt.toNat) &&& (255 : Int32))), .val (.int (3 : Int32)), .val (.int lo), .val (.int hi), .val (.int (0 : Int32)), .val (.int (1 : Int32)), s11] [(.int iv)])) tgt
                    refine XS.ifYes X0.here hx rfl (pc0 := 6) (pc' := 314) rfl (hb hby d1_6) rfl ((if0 _ _).trans (flt (by rw [own_ilt, show (0 : Int32).toInt = 0 from rfl]; omega)).2.1) (by decide) (by decide) ?_
                    show Steps p.tables e below (s₁.setTop (mkF m 314 #[.val (.ref ch), .val (.int xf), .val (.int xt), .val (.int iv), .val (.int iv), .val (.int ((ff iv.toInt.toNat) &&& (255 : Int32))), .val (.int (3 : Int32)), .val (.int lo), .val (.int hi), .val (.int (0 : Int32)), .val (.int (1 : Int32)), s11] [])) tgt
                    refine XS.iloadN X0.here hx rfl (hb hby d1_314) rfl ?_
                    exact k
                  refine own_retI X0 hx hlk Bd.returns (hb hby d1_315) ?_ (by decide) (by decide)
                  show Q1 Z ch xf xt ff fu h0 n0 (some (.int iv)) s₁.heap _
                  rw [e0]
                  refine ⟨?_, N0, rfl⟩
                  exact congrArg (fun q => some (Value.int q)) (by rw [← hE, own_bad hc12 (by unfold own_S own_s4; rw [if_neg hc43, if_neg hc57, if_pos hc65, if_neg hc87, ← hlo, ← hhi, if_pos hc198])])
                · skip
                  refine own_st (V := s₁.setTop (mkF m 201 #[.val (.ref ch), .val (.int xf), .val (.int xt), .val (.int (-1 : Int32)), .val (.int iv), .val (.int ((ff iv.toInt.toNat) &&& (255 : Int32))), .val (.int (3 : Int32)), .val (.int lo), .val (.int hi), s9, s10, s11] [])) (fun tgt k => ?_) ?_
                  · show Steps p.tables e below (s₁.setTop (mkF m 198 #[.val (.ref ch), .val (.int xf), .val (.int xt), .val (.int (-1 : Int32)), .val (.int iv), .val (.int ((ff iv.toInt.toNat) &&& (255 : Int32))), .val (.int (3 : Int32)), .val (.int lo), .val (.int hi), s9, s10, s11] [(.int xt), (.int (iv + (3 : Int32)))])) tgt
                    refine XS.icmpNo X0.here hx rfl (hb hby d1_198) rfl (flt hc198).2.2.1 ?_
                    exact k
                  have hfit : iv.toInt + 3 ≤ xt.toInt := by rw [own_ilt, a3] at hc198; omega
                  refine own_st (V := s₁.setTop (mkF m 246 #[.val (.ref ch), .val (.int xf), .val (.int xt), .val (.int (-1 : Int32)), .val (.int iv), .val (.int ((ff iv.toInt.toNat) &&& (255 : Int32))), .val (.int (3 : Int32)), .val (.int lo), .val (.int hi), .val (.int (1 : Int32)), .val (.int (1 : Int32)), .val (.int ((ff (iv.toInt.toNat + 1)) &&& (255 : Int32)))] [(.int lo), (.int ((ff (iv.toInt.toNat + 1)) &&& (255 : Int32)))])) (fun tgt k => ?_) ?_
                  · show Steps p.tables e below (s₁.setTop (mkF m 201 #[.val (.ref ch), .val (.int xf), .val (.int xt), .val (.int (-1 : Int32)), .val (.int iv), .val (.int ((ff iv.toInt.toNat) &&& (255 : Int32))), .val (.int (3 : Int32)), .val (.int lo), .val (.int hi), s9, s10, s11] [])) tgt
                    refine XS.iconst X0.here hx rfl (hb hby d1_201) ?_
                    show Steps p.tables e below (s₁.setTop (mkF m 202 #[.val (.ref ch), .val (.int xf), .val (.int xt), .val (.int (-1 : Int32)), .val (.int iv), .val (.int ((ff iv.toInt.toNat) &&& (255 : Int32))), .val (.int (3 : Int32)), .val (.int lo), .val (.int hi), s9, s10, s11] [(.int (1 : Int32))])) tgt
                    refine XS.goto X0.here hx rfl (pc0 := 202) (pc' := 206) rfl (hb hby d1_202) (by decide) (by decide) ?_
                    show Steps p.tables e below (s₁.setTop (mkF m 206 #[.val (.ref ch), .val (.int xf), .val (.int xt), .val (.int (-1 : Int32)), .val (.int iv), .val (.int ((ff iv.toInt.toNat) &&& (255 : Int32))), .val (.int (3 : Int32)), .val (.int lo), .val (.int hi), s9, s10, s11] [(.int (1 : Int32))])) tgt
                    refine XS.istoreS X0.here hx rfl (hb hby d1_206) rfl rfl o9 ?_
                    show Steps p.tables e below (s₁.setTop (mkF m 208 #[.val (.ref ch), .val (.int xf), .val (.int xt), .val (.int (-1 : Int32)), .val (.int iv), .val (.int ((ff iv.toInt.toNat) &&& (255 : Int32))), .val (.int (3 : Int32)), .val (.int lo), .val (.int hi), .val (.int (1 : Int32)), s10, s11] [])) tgt
                    refine XS.iconst X0.here hx rfl (hb hby d1_208) ?_
                    show Steps p.tables e below (s₁.setTop (mkF m 209 #[.val (.ref ch), .val (.int xf), .val (.int xt), .val (.int (-1 : Int32)), .val (.int iv), .val (.int ((ff iv.toInt.toNat) &&& (255 : Int32))), .val (.int (3 : Int32)), .val (.int lo), .val (.int hi), .val (.int (1 : Int32)), s10, s11] [(.int (1 : Int32))])) tgt
                    refine XS.istoreS X0.here hx rfl (hb hby d1_209) rfl rfl o10 ?_
                    show Steps p.tables e below (s₁.setTop (mkF m 211 #[.val (.ref ch), .val (.int xf), .val (.int xt), .val (.int (-1 : Int32)), .val (.int iv), .val (.int ((ff iv.toInt.toNat) &&& (255 : Int32))), .val (.int (3 : Int32)), .val (.int lo), .val (.int hi), .val (.int (1 : Int32)), .val (.int (1 : Int32)), s11] [])) tgt
                    refine XS.iload X0.here hx rfl (hb hby d1_211) rfl ?_
                    show Steps p.tables e below (s₁.setTop (mkF m 213 #[.val (.ref ch), .val (.int xf), .val (.int xt), .val (.int (-1 : Int32)), .val (.int iv), .val (.int ((ff iv.toInt.toNat) &&& (255 : Int32))), .val (.int (3 : Int32)), .val (.int lo), .val (.int hi), .val (.int (1 : Int32)), .val (.int (1 : Int32)), s11] [(.int (1 : Int32))])) tgt
                    refine XS.ifNo X0.here hx rfl (hb hby d1_213) rfl ((if0 _ _).trans (feq (by decide : ¬ ((1 : Int32) = (0 : Int32)))).1) ?_
                    show Steps p.tables e below (s₁.setTop (mkF m 216 #[.val (.ref ch), .val (.int xf), .val (.int xt), .val (.int (-1 : Int32)), .val (.int iv), .val (.int ((ff iv.toInt.toNat) &&& (255 : Int32))), .val (.int (3 : Int32)), .val (.int lo), .val (.int hi), .val (.int (1 : Int32)), .val (.int (1 : Int32)), s11] [])) tgt
                    refine XS.iload X0.here hx rfl (hb hby d1_216) rfl ?_
                    show Steps p.tables e below (s₁.setTop (mkF m 218 #[.val (.ref ch), .val (.int xf), .val (.int xt), .val (.int (-1 : Int32)), .val (.int iv), .val (.int ((ff iv.toInt.toNat) &&& (255 : Int32))), .val (.int (3 : Int32)), .val (.int lo), .val (.int hi), .val (.int (1 : Int32)), .val (.int (1 : Int32)), s11] [(.int (1 : Int32))])) tgt
                    refine XS.iload X0.here hx rfl (hb hby d1_218) rfl ?_
                    show Steps p.tables e below (s₁.setTop (mkF m 220 #[.val (.ref ch), .val (.int xf), .val (.int xt), .val (.int (-1 : Int32)), .val (.int iv), .val (.int ((ff iv.toInt.toNat) &&& (255 : Int32))), .val (.int (3 : Int32)), .val (.int lo), .val (.int hi), .val (.int (1 : Int32)), .val (.int (1 : Int32)), s11] [(.int (3 : Int32)), (.int (1 : Int32))])) tgt
                    refine XS.icmpNo X0.here hx rfl (hb hby d1_220) rfl (tlt (by decide : (1 : Int32) < (3 : Int32))).2.1 ?_
                    show Steps p.tables e below (s₁.setTop (mkF m 223 #[.val (.ref ch), .val (.int xf), .val (.int xt), .val (.int (-1 : Int32)), .val (.int iv), .val (.int ((ff iv.toInt.toNat) &&& (255 : Int32))), .val (.int (3 : Int32)), .val (.int lo), .val (.int hi), .val (.int (1 : Int32)), .val (.int (1 : Int32)), s11] [])) tgt
                    refine XS.aloadN X0.here hx rfl (hb hby d1_223) rfl rfl ?_
                    show Steps p.tables e below (s₁.setTop (mkF m 224 #[.val (.ref ch), .val (.int xf), .val (.int xt), .val (.int (-1 : Int32)), .val (.int iv), .val (.int ((ff iv.toInt.toNat) &&& (255 : Int32))), .val (.int (3 : Int32)), .val (.int lo), .val (.int hi), .val (.int (1 : Int32)), .val (.int (1 : Int32)), s11] [(.ref ch)])) tgt
                    refine XS.iload X0.here hx rfl (hb hby d1_224) rfl ?_
                    show Steps p.tables e below (s₁.setTop (mkF m 226 #[.val (.ref ch), .val (.int xf), .val (.int xt), .val (.int (-1 : Int32)), .val (.int iv), .val (.int ((ff iv.toInt.toNat) &&& (255 : Int32))), .val (.int (3 : Int32)), .val (.int lo), .val (.int hi), .val (.int (1 : Int32)), .val (.int (1 : Int32)), s11] [(.int iv), (.ref ch)])) tgt
                    refine XS.iload X0.here hx rfl (hb hby d1_226) rfl ?_
                    show Steps p.tables e below (s₁.setTop (mkF m 228 #[.val (.ref ch), .val (.int xf), .val (.int xt), .val (.int (-1 : Int32)), .val (.int iv), .val (.int ((ff iv.toInt.toNat) &&& (255 : Int32))), .val (.int (3 : Int32)), .val (.int lo), .val (.int hi), .val (.int (1 : Int32)), .val (.int (1 : Int32)), s11] [(.int (1 : Int32)), (.int iv), (.ref ch)])) tgt
                    refine XS.iadd X0.here hx rfl (hb hby d1_228) rfl ?_
                    show Steps p.tables e below (s₁.setTop (mkF m 229 #[.val (.ref ch), .val (.int xf), .val (.int xt), .val (.int (-1 : Int32)), .val (.int iv), .val (.int ((ff iv.toInt.toNat) &&& (255 : Int32))), .val (.int (3 : Int32)), .val (.int lo), .val (.int hi), .val (.int (1 : Int32)), .val (.int (1 : Int32)), s11] [(.int (iv + (1 : Int32))), (.ref ch)])) tgt
                    refine own_baload X0 hx hZ e0 A1 (j := (iv + (1 : Int32))) (k := (iv.toInt.toNat + 1)) a1 (by rw [own_ilt] at hc12; have := hfit; omega) (g := (mkF m 229 #[.val (.ref ch), .val (.int xf), .val (.int xt), .val (.int (-1 : Int32)), .val (.int iv), .val (.int ((ff iv.toInt.toNat) &&& (255 : Int32))), .val (.int (3 : Int32)), .val (.int lo), .val (.int hi), .val (.int (1 : Int32)), .val (.int (1 : Int32)), s11] [(.int (iv + (1 : Int32))), (.ref ch)])) rfl rfl (hb hby d1_229) ?_
                    show Steps p.tables e below (s₁.setTop (mkF m 230 #[.val (.ref ch), .val (.int xf), .val (.int xt), .val (.int (-1 : Int32)), .val (.int iv), .val (.int ((ff iv.toInt.toNat) &&& (255 : Int32))), .val (.int (3 : Int32)), .val (.int lo), .val (.int hi), .val (.int (1 : Int32)), .val (.int (1 : Int32)), s11] [(.int (ff (iv.toInt.toNat + 1)))])) tgt
                    refine XS.sipush X0.here hx rfl (hb hby d1_230) ?_
                    show Steps p.tables e below (s₁.setTop (mkF m 233 #[.val (.ref ch), .val (.int xf), .val (.int xt), .val (.int (-1 : Int32)), .val (.int iv), .val (.int ((ff iv.toInt.toNat) &&& (255 : Int32))), .val (.int (3 : Int32)), .val (.int lo), .val (.int hi), .val (.int (1 : Int32)), .val (.int (1 : Int32)), s11] [(.int (255 : Int32)), (.int (ff (iv.toInt.toNat + 1)))])) tgt
                    refine XS.iand X0.here hx rfl (hb hby d1_233) rfl ?_
                    show Steps p.tables e below (s₁.setTop (mkF m 234 #[.val (.ref ch), .val (.int xf), .val (.int xt), .val (.int (-1 : Int32)), .val (.int iv), .val (.int ((ff iv.toInt.toNat) &&& (255 : Int32))), .val (.int (3 : Int32)), .val (.int lo), .val (.int hi), .val (.int (1 : Int32)), .val (.int (1 : Int32)), s11] [(.int ((ff (iv.toInt.toNat + 1)) &&& (255 : Int32)))])) tgt
                    refine XS.istoreS X0.here hx rfl (hb hby d1_234) rfl rfl o11 ?_
                    show Steps p.tables e below (s₁.setTop (mkF m 236 #[.val (.ref ch), .val (.int xf), .val (.int xt), .val (.int (-1 : Int32)), .val (.int iv), .val (.int ((ff iv.toInt.toNat) &&& (255 : Int32))), .val (.int (3 : Int32)), .val (.int lo), .val (.int hi), .val (.int (1 : Int32)), .val (.int (1 : Int32)), .val (.int ((ff (iv.toInt.toNat + 1)) &&& (255 : Int32)))] [])) tgt
                    refine XS.iload X0.here hx rfl (hb hby d1_236) rfl ?_
                    show Steps p.tables e below (s₁.setTop (mkF m 238 #[.val (.ref ch), .val (.int xf), .val (.int xt), .val (.int (-1 : Int32)), .val (.int iv), .val (.int ((ff iv.toInt.toNat) &&& (255 : Int32))), .val (.int (3 : Int32)), .val (.int lo), .val (.int hi), .val (.int (1 : Int32)), .val (.int (1 : Int32)), .val (.int ((ff (iv.toInt.toNat + 1)) &&& (255 : Int32)))] [(.int (1 : Int32))])) tgt
                    refine XS.iconst X0.here hx rfl (hb hby d1_238) ?_
                    show Steps p.tables e below (s₁.setTop (mkF m 239 #[.val (.ref ch), .val (.int xf), .val (.int xt), .val (.int (-1 : Int32)), .val (.int iv), .val (.int ((ff iv.toInt.toNat) &&& (255 : Int32))), .val (.int (3 : Int32)), .val (.int lo), .val (.int hi), .val (.int (1 : Int32)), .val (.int (1 : Int32)), .val (.int ((ff (iv.toInt.toNat + 1)) &&& (255 : Int32)))] [(.int (1 : Int32)), (.int (1 : Int32))])) tgt
                    refine XS.icmpNo X0.here hx rfl (hb hby d1_239) rfl (teq (by decide : (1 : Int32) = (1 : Int32))).2 ?_
                    show Steps p.tables e below (s₁.setTop (mkF m 242 #[.val (.ref ch), .val (.int xf), .val (.int xt), .val (.int (-1 : Int32)), .val (.int iv), .val (.int ((ff iv.toInt.toNat) &&& (255 : Int32))), .val (.int (3 : Int32)), .val (.int lo), .val (.int hi), .val (.int (1 : Int32)), .val (.int (1 : Int32)), .val (.int ((ff (iv.toInt.toNat + 1)) &&& (255 : Int32)))] [])) tgt
                    refine XS.iload X0.here hx rfl (hb hby d1_242) rfl ?_
                    show Steps p.tables e below (s₁.setTop (mkF m 244 #[.val (.ref ch), .val (.int xf), .val (.int xt), .val (.int (-1 : Int32)), .val (.int iv), .val (.int ((ff iv.toInt.toNat) &&& (255 : Int32))), .val (.int (3 : Int32)), .val (.int lo), .val (.int hi), .val (.int (1 : Int32)), .val (.int (1 : Int32)), .val (.int ((ff (iv.toInt.toNat + 1)) &&& (255 : Int32)))] [(.int ((ff (iv.toInt.toNat + 1)) &&& (255 : Int32)))])) tgt
                    refine XS.iload X0.here hx rfl (hb hby d1_244) rfl ?_
                    exact k
                  by_cases hc246 : ((ff (iv.toInt.toNat + 1)) &&& (255 : Int32)) < lo
                  · skip
                    refine own_st (V := s₁.setTop (mkF m 290 #[.val (.ref ch), .val (.int xf), .val (.int xt), .val (.int (-1 : Int32)), .val (.int iv), .val (.int ((ff iv.toInt.toNat) &&& (255 : Int32))), .val (.int (3 : Int32)), .val (.int lo), .val (.int hi), .val (.int (0 : Int32)), .val (.int ((1 : Int32) + (1 : Int32))), .val (.int ((ff (iv.toInt.toNat + 1)) &&& (255 : Int32)))] [])) (fun tgt k => ?_) ?_
                    · show Steps p.tables e below (s₁.setTop (mkF m 246 #[.val (.ref ch), .val (.int xf), .val (.int xt), .val (.int (-1 : Int32)), .val (.int iv), .val (.int ((ff iv.toInt.toNat) &&& (255 : Int32))), .val (.int (3 : Int32)), .val (.int lo), .val (.int hi), .val (.int (1 : Int32)), .val (.int (1 : Int32)), .val (.int ((ff (iv.toInt.toNat + 1)) &&& (255 : Int32)))] [(.int lo), (.int ((ff (iv.toInt.toNat + 1)) &&& (255 : Int32)))])) tgt
                      refine XS.icmpYes X0.here hx rfl (pc0 := 246) (pc' := 260) rfl (hb hby d1_246) rfl (tlt hc246).1 (by decide) (by decide) ?_
                      show Steps p.tables e below (s₁.setTop (mkF m 260 #[.val (.ref ch), .val (.int xf), .val (.int xt), .val (.int (-1 : Int32)), .val (.int iv), .val (.int ((ff iv.toInt.toNat) &&& (255 : Int32))), .val (.int (3 : Int32)), .val (.int lo), .val (.int hi), .val (.int (1 : Int32)), .val (.int (1 : Int32)), .val (.int ((ff (iv.toInt.toNat + 1)) &&& (255 : Int32)))] [])) tgt
                      refine XS.iconst X0.here hx rfl (hb hby d1_260) ?_
                      show Steps p.tables e below (s₁.setTop (mkF m 261 #[.val (.ref ch), .val (.int xf), .val (.int xt), .val (.int (-1 : Int32)), .val (.int iv), .val (.int ((ff iv.toInt.toNat) &&& (255 : Int32))), .val (.int (3 : Int32)), .val (.int lo), .val (.int hi), .val (.int (1 : Int32)), .val (.int (1 : Int32)), .val (.int ((ff (iv.toInt.toNat + 1)) &&& (255 : Int32)))] [(.int (0 : Int32))])) tgt
                      refine XS.goto X0.here hx rfl (pc0 := 261) (pc' := 285) rfl (hb hby d1_261) (by decide) (by decide) ?_
                      show Steps p.tables e below (s₁.setTop (mkF m 285 #[.val (.ref ch), .val (.int xf), .val (.int xt), .val (.int (-1 : Int32)), .val (.int iv), .val (.int ((ff iv.toInt.toNat) &&& (255 : Int32))), .val (.int (3 : Int32)), .val (.int lo), .val (.int hi), .val (.int (1 : Int32)), .val (.int (1 : Int32)), .val (.int ((ff (iv.toInt.toNat + 1)) &&& (255 : Int32)))] [(.int (0 : Int32))])) tgt
                      refine XS.istore X0.here hx rfl (hb hby d1_285) rfl (l' := #[.val (.ref ch), .val (.int xf), .val (.int xt), .val (.int (-1 : Int32)), .val (.int iv), .val (.int ((ff iv.toInt.toNat) &&& (255 : Int32))), .val (.int (3 : Int32)), .val (.int lo), .val (.int hi), .val (.int (0 : Int32)), .val (.int (1 : Int32)), .val (.int ((ff (iv.toInt.toNat + 1)) &&& (255 : Int32)))]) rfl ?_
                      show Steps p.tables e below (s₁.setTop (mkF m 287 #[.val (.ref ch), .val (.int xf), .val (.int xt), .val (.int (-1 : Int32)), .val (.int iv), .val (.int ((ff iv.toInt.toNat) &&& (255 : Int32))), .val (.int (3 : Int32)), .val (.int lo), .val (.int hi), .val (.int (0 : Int32)), .val (.int (1 : Int32)), .val (.int ((ff (iv.toInt.toNat + 1)) &&& (255 : Int32)))] [])) tgt
                      refine XS.iinc X0.here hx rfl (hb hby d1_287) rfl (l' := #[.val (.ref ch), .val (.int xf), .val (.int xt), .val (.int (-1 : Int32)), .val (.int iv), .val (.int ((ff iv.toInt.toNat) &&& (255 : Int32))), .val (.int (3 : Int32)), .val (.int lo), .val (.int hi), .val (.int (0 : Int32)), .val (.int ((1 : Int32) + (1 : Int32))), .val (.int ((ff (iv.toInt.toNat + 1)) &&& (255 : Int32)))]) rfl ?_
                      exact k
                    rw [show ((1 : Int32) + (1 : Int32)) = (2 : Int32) from by decide]
                    refine own_st (V := s₁.setTop (mkF m 5 #[.val (.ref ch), .val (.int xf), .val (.int xt), .val (.int iv), .val (.int iv), .val (.int ((ff iv.toInt.toNat) &&& (255 : Int32))), .val (.int (3 : Int32)), .val (.int lo), .val (.int hi), .val (.int (0 : Int32)), .val (.int (2 : Int32)), .val (.int ((ff (iv.toInt.toNat + 1)) &&& (255 : Int32)))] [])) (fun tgt k => ?_) ?_
                    · show Steps p.tables e below (s₁.setTop (mkF m 290 #[.val (.ref ch), .val (.int xf), .val (.int xt), .val (.int (-1 : Int32)), .val (.int iv), .val (.int ((ff iv.toInt.toNat) &&& (255 : Int32))), .val (.int (3 : Int32)), .val (.int lo), .val (.int hi), .val (.int (0 : Int32)), .val (.int (2 : Int32)), .val (.int ((ff (iv.toInt.toNat + 1)) &&& (255 : Int32)))] [])) tgt
                      refine XS.goto X0.here hx rfl (pc0 := 290) (pc' := 211) rfl (hb hby d1_290) (by decide) (by decide) ?_
                      show Steps p.tables e below (s₁.setTop (mkF m 211 #[.val (.ref ch), .val (.int xf), .val (.int xt), .val (.int (-1 : Int32)), .val (.int iv), .val (.int ((ff iv.toInt.toNat) &&& (255 : Int32))), .val (.int (3 : Int32)), .val (.int lo), .val (.int hi), .val (.int (0 : Int32)), .val (.int (2 : Int32)), .val (.int ((ff (iv.toInt.toNat + 1)) &&& (255 : Int32)))] [])) tgt
                      refine XS.iload X0.here hx rfl (hb hby d1_211) rfl ?_
                      show Steps p.tables e below (s₁.setTop (mkF m 213 #[.val (.ref ch), .val (.int xf), .val (.int xt), .val (.int (-1 : Int32)), .val (.int iv), .val (.int ((ff iv.toInt.toNat) &&& (255 : Int32))), .val (.int (3 : Int32)), .val (.int lo), .val (.int hi), .val (.int (0 : Int32)), .val (.int (2 : Int32)), .val (.int ((ff (iv.toInt.toNat + 1)) &&& (255 : Int32)))] [(.int (0 : Int32))])) tgt
                      refine XS.ifYes X0.here hx rfl (pc0 := 213) (pc' := 293) rfl (hb hby d1_213) rfl ((if0 _ _).trans (teq (by decide : (0 : Int32) = (0 : Int32))).1) (by decide) (by decide) ?_
                      show Steps p.tables e below (s₁.setTop (mkF m 293 #[.val (.ref ch), .val (.int xf), .val (.int xt), .val (.int (-1 : Int32)), .val (.int iv), .val (.int ((ff iv.toInt.toNat) &&& (255 : Int32))), .val (.int (3 : Int32)), .val (.int lo), .val (.int hi), .val (.int (0 : Int32)), .val (.int (2 : Int32)), .val (.int ((ff (iv.toInt.toNat + 1)) &&& (255 : Int32)))] [])) tgt
                      refine XS.iload X0.here hx rfl (hb hby d1_293) rfl ?_
                      show Steps p.tables e below (s₁.setTop (mkF m 295 #[.val (.ref ch), .val (.int xf), .val (.int xt), .val (.int (-1 : Int32)), .val (.int iv), .val (.int ((ff iv.toInt.toNat) &&& (255 : Int32))), .val (.int (3 : Int32)), .val (.int lo), .val (.int hi), .val (.int (0 : Int32)), .val (.int (2 : Int32)), .val (.int ((ff (iv.toInt.toNat + 1)) &&& (255 : Int32)))] [(.int (0 : Int32))])) tgt
                      refine XS.ifYes X0.here hx rfl (pc0 := 295) (pc' := 308) rfl (hb hby d1_295) rfl ((if0 _ _).trans (teq (by decide : (0 : Int32) = (0 : Int32))).1) (by decide) (by decide) ?_
                      show Steps p.tables e below (s₁.setTop (mkF m 308 #[.val (.ref ch), .val (.int xf), .val (.int xt), .val (.int (-1 : Int32)), .val (.int iv), .val (.int ((ff iv.toInt.toNat) &&& (255 : Int32))), .val (.int (3 : Int32)), .val (.int lo), .val (.int hi), .val (.int (0 : Int32)), .val (.int (2 : Int32)), .val (.int ((ff (iv.toInt.toNat + 1)) &&& (255 : Int32)))] [])) tgt
                      refine XS.iload X0.here hx rfl (hb hby d1_308) rfl ?_
                      show Steps p.tables e below (s₁.setTop (mkF m 310 #[.val (.ref ch), .val (.int xf), .val (.int xt), .val (.int (-1 : Int32)), .val (.int iv), .val (.int ((ff iv.toInt.toNat) &&& (255 : Int32))), .val (.int (3 : Int32)), .val (.int lo), .val (.int hi), .val (.int (0 : Int32)), .val (.int (2 : Int32)), .val (.int ((ff (iv.toInt.toNat + 1)) &&& (255 : Int32)))] [(.int iv)])) tgt
                      refine XS.istoreN X0.here hx rfl (hb hby d1_310) rfl (l' := #[.val (.ref ch), .val (.int xf), .val (.int xt), .val (.int iv), .val (.int iv), .val (.int ((ff iv.toInt.toNat) &&& (255 : Int32))), .val (.int (3 : Int32)), .val (.int lo), .val (.int hi), .val (.int (0 : Int32)), .val (.int (2 : Int32)), .val (.int ((ff (iv.toInt.toNat + 1)) &&& (255 : Int32)))]) rfl ?_
                      show Steps p.tables e below (s₁.setTop (mkF m 311 #[.val (.ref ch), .val (.int xf), .val (.int xt), .val (.int iv), .val (.int iv), .val (.int ((ff iv.toInt.toNat) &&& (255 : Int32))), .val (.int (3 : Int32)), .val (.int lo), .val (.int hi), .val (.int (0 : Int32)), .val (.int (2 : Int32)), .val (.int ((ff (iv.toInt.toNat + 1)) &&& (255 : Int32)))] [])) tgt
                      refine XS.goto X0.here hx rfl (pc0 := 311) (pc' := 5) rfl (hb hby d1_311) (by decide) (by decide) ?_
                      exact k
                    refine own_st (V := s₁.setTop (mkF m 315 #[.val (.ref ch), .val (.int xf), .val (.int xt), .val (.int iv), .val (.int iv), .val (.int ((ff iv.toInt.toNat) &&& (255 : Int32))), .val (.int (3 : Int32)), .val (.int lo), .val (.int hi), .val (.int (0 : Int32)), .val (.int (2 : Int32)), .val (.int ((ff (iv.toInt.toNat + 1)) &&& (255 : Int32)))] [(.int iv)])) (fun tgt k => ?_) ?_
                    · show Steps p.tables e below (s₁.setTop (mkF m 5 #[.val (.ref ch), .val (.int xf), .val (.int xt), .val (.int iv), .val (.int iv), .val (.int ((ff iv.toInt.toNat) &&& (255 : Int32))), .val (.int (3 : Int32)), .val (.int lo), .val (.int hi), .val (.int (0 : Int32)), .val (.int (2 : Int32)), .val (.int ((ff (iv.toInt.toNat + 1)) &&& (255 : Int32)))] [])) tgt
                      refine XS.iloadN X0.here hx rfl (hb hby d1_5) rfl ?_
                      show Steps p.tables e below (s₁.setTop (mkF m 6 #[.val (.ref ch), .val (.int xf), .val (.int xt), .val (.int iv), .val (.int iv), .val (.int ((ff iv.toInt.toNat) &&& (255 : Int32))), .val (.int (3 : Int32)), .val (.int lo), .val (.int hi), .val (.int (0 : Int32)), .val (.int (2 : Int32)), .val (.int ((ff (iv.toInt.toNat + 1)) &&& (255 : Int32)))] [(.int iv)])) tgt
                      refine XS.ifYes X0.here hx rfl (pc0 := 6) (pc' := 314) rfl (hb hby d1_6) rfl ((if0 _ _).trans (flt (by rw [own_ilt, show (0 : Int32).toInt = 0 from rfl]; omega)).2.1) (by decide) (by decide) ?_
                      show Steps p.tables e below (s₁.setTop (mkF m 314 #[.val (.ref ch), .val (.int xf), .val (.int xt), .val (.int iv), .val (.int iv), .val (.int ((ff iv.toInt.toNat) &&& (255 : Int32))), .val (.int (3 : Int32)), .val (.int lo), .val (.int hi), .val (.int (0 : Int32)), .val (.int (2 : Int32)), .val (.int ((ff (iv.toInt.toNat + 1)) &&& (255 : Int32)))] [])) tgt
                      refine XS.iloadN X0.here hx rfl (hb hby d1_314) rfl ?_
                      exact k
                    refine own_retI X0 hx hlk Bd.returns (hb hby d1_315) ?_ (by decide) (by decide)
                    show Q1 Z ch xf xt ff fu h0 n0 (some (.int iv)) s₁.heap _
                    rw [e0]
                    refine ⟨?_, N0, rfl⟩
                    exact congrArg (fun q => some (Value.int q)) (by rw [← hE, own_bad hc12 (by unfold own_S own_s4; rw [if_neg hc43, if_neg hc57, if_pos hc65, if_neg hc87, ← hlo, ← hhi, if_neg hc198, if_pos hc246])])
                  · skip
                    refine own_st (V := s₁.setTop (mkF m 253 #[.val (.ref ch), .val (.int xf), .val (.int xt), .val (.int (-1 : Int32)), .val (.int iv), .val (.int ((ff iv.toInt.toNat) &&& (255 : Int32))), .val (.int (3 : Int32)), .val (.int lo), .val (.int hi), .val (.int (1 : Int32)), .val (.int (1 : Int32)), .val (.int ((ff (iv.toInt.toNat + 1)) &&& (255 : Int32)))] [(.int hi), (.int ((ff (iv.toInt.toNat + 1)) &&& (255 : Int32)))])) (fun tgt k => ?_) ?_
                    · show Steps p.tables e below (s₁.setTop (mkF m 246 #[.val (.ref ch), .val (.int xf), .val (.int xt), .val (.int (-1 : Int32)), .val (.int iv), .val (.int ((ff iv.toInt.toNat) &&& (255 : Int32))), .val (.int (3 : Int32)), .val (.int lo), .val (.int hi), .val (.int (1 : Int32)), .val (.int (1 : Int32)), .val (.int ((ff (iv.toInt.toNat + 1)) &&& (255 : Int32)))] [(.int lo), (.int ((ff (iv.toInt.toNat + 1)) &&& (255 : Int32)))])) tgt
                      refine XS.icmpNo X0.here hx rfl (hb hby d1_246) rfl (flt hc246).1 ?_
                      show Steps p.tables e below (s₁.setTop (mkF m 249 #[.val (.ref ch), .val (.int xf), .val (.int xt), .val (.int (-1 : Int32)), .val (.int iv), .val (.int ((ff iv.toInt.toNat) &&& (255 : Int32))), .val (.int (3 : Int32)), .val (.int lo), .val (.int hi), .val (.int (1 : Int32)), .val (.int (1 : Int32)), .val (.int ((ff (iv.toInt.toNat + 1)) &&& (255 : Int32)))] [])) tgt
                      refine XS.iload X0.here hx rfl (hb hby d1_249) rfl ?_
                      show Steps p.tables e below (s₁.setTop (mkF m 251 #[.val (.ref ch), .val (.int xf), .val (.int xt), .val (.int (-1 : Int32)), .val (.int iv), .val (.int ((ff iv.toInt.toNat) &&& (255 : Int32))), .val (.int (3 : Int32)), .val (.int lo), .val (.int hi), .val (.int (1 : Int32)), .val (.int (1 : Int32)), .val (.int ((ff (iv.toInt.toNat + 1)) &&& (255 : Int32)))] [(.int ((ff (iv.toInt.toNat + 1)) &&& (255 : Int32)))])) tgt
                      refine XS.iload X0.here hx rfl (hb hby d1_251) rfl ?_
                      exact k
                    by_cases hc253 : hi < ((ff (iv.toInt.toNat + 1)) &&& (255 : Int32))
                    · skip
                      refine own_st (V := s₁.setTop (mkF m 290 #[.val (.ref ch), .val (.int xf), .val (.int xt), .val (.int (-1 : Int32)), .val (.int iv), .val (.int ((ff iv.toInt.toNat) &&& (255 : Int32))), .val (.int (3 : Int32)), .val (.int lo), .val (.int hi), .val (.int (0 : Int32)), .val (.int ((1 : Int32) + (1 : Int32))), .val (.int ((ff (iv.toInt.toNat + 1)) &&& (255 : Int32)))] [])) (fun tgt k => ?_) ?_
                      · show Steps p.tables e below (s₁.setTop (mkF m 253 #[.val (.ref ch), .val (.int xf), .val (.int xt), .val (.int (-1 : Int32)), .val (.int iv), .val (.int ((ff iv.toInt.toNat) &&& (255 : Int32))), .val (.int (3 : Int32)), .val (.int lo), .val (.int hi), .val (.int (1 : Int32)), .val (.int (1 : Int32)), .val (.int ((ff (iv.toInt.toNat + 1)) &&& (255 : Int32)))] [(.int hi), (.int ((ff (iv.toInt.toNat + 1)) &&& (255 : Int32)))])) tgt
                        refine XS.icmpYes X0.here hx rfl (pc0 := 253) (pc' := 260) rfl (hb hby d1_253) rfl (tlt hc253).2.2.1 (by decide) (by decide) ?_
                        show Steps p.tables e below (s₁.setTop (mkF m 260 #[.val (.ref ch), .val (.int xf), .val (.int xt), .val (.int (-1 : Int32)), .val (.int iv), .val (.int ((ff iv.toInt.toNat) &&& (255 : Int32))), .val (.int (3 : Int32)), .val (.int lo), .val (.int hi), .val (.int (1 : Int32)), .val (.int (1 : Int32)), .val (.int ((ff (iv.toInt.toNat + 1)) &&& (255 : Int32)))] [])) tgt
                        refine XS.iconst X0.here hx rfl (hb hby d1_260) ?_
                        show Steps p.tables e below (s₁.setTop (mkF m 261 #[.val (.ref ch), .val (.int xf), .val (.int xt), .val (.int (-1 : Int32)), .val (.int iv), .val (.int ((ff iv.toInt.toNat) &&& (255 : Int32))), .val (.int (3 : Int32)), .val (.int lo), .val (.int hi), .val (.int (1 : Int32)), .val (.int (1 : Int32)), .val (.int ((ff (iv.toInt.toNat + 1)) &&& (255 : Int32)))] [(.int (0 : Int32))])) tgt
                        refine XS.goto X0.here hx rfl (pc0 := 261) (pc' := 285) rfl (hb hby d1_261) (by decide) (by decide) ?_
                        show Steps p.tables e below (s₁.setTop (mkF m 285 #[.val (.ref ch), .val (.int xf), .val (.int xt), .val (.int (-1 : Int32)), .val (.int iv), .val (.int ((ff iv.toInt.toNat) &&& (255 : Int32))), .val (.int (3 : Int32)), .val (.int lo), .val (.int hi), .val (.int (1 : Int32)), .val (.int (1 : Int32)), .val (.int ((ff (iv.toInt.toNat + 1)) &&& (255 : Int32)))] [(.int (0 : Int32))])) tgt
                        refine XS.istore X0.here hx rfl (hb hby d1_285) rfl (l' := #[.val (.ref ch), .val (.int xf), .val (.int xt), .val (.int (-1 : Int32)), .val (.int iv), .val (.int ((ff iv.toInt.toNat) &&& (255 : Int32))), .val (.int (3 : Int32)), .val (.int lo), .val (.int hi), .val (.int (0 : Int32)), .val (.int (1 : Int32)), .val (.int ((ff (iv.toInt.toNat + 1)) &&& (255 : Int32)))]) rfl ?_
                        show Steps p.tables e below (s₁.setTop (mkF m 287 #[.val (.ref ch), .val (.int xf), .val (.int xt), .val (.int (-1 : Int32)), .val (.int iv), .val (.int ((ff iv.toInt.toNat) &&& (255 : Int32))), .val (.int (3 : Int32)), .val (.int lo), .val (.int hi), .val (.int (0 : Int32)), .val (.int (1 : Int32)), .val (.int ((ff (iv.toInt.toNat + 1)) &&& (255 : Int32)))] [])) tgt
                        refine XS.iinc X0.here hx rfl (hb hby d1_287) rfl (l' := #[.val (.ref ch), .val (.int xf), .val (.int xt), .val (.int (-1 : Int32)), .val (.int iv), .val (.int ((ff iv.toInt.toNat) &&& (255 : Int32))), .val (.int (3 : Int32)), .val (.int lo), .val (.int hi), .val (.int (0 : Int32)), .val (.int ((1 : Int32) + (1 : Int32))), .val (.int ((ff (iv.toInt.toNat + 1)) &&& (255 : Int32)))]) rfl ?_
                        exact k
                      rw [show ((1 : Int32) + (1 : Int32)) = (2 : Int32) from by decide]
                      refine own_st (V := s₁.setTop (mkF m 5 #[.val (.ref ch), .val (.int xf), .val (.int xt), .val (.int iv), .val (.int iv), .val (.int ((ff iv.toInt.toNat) &&& (255 : Int32))), .val (.int (3 : Int32)), .val (.int lo), .val (.int hi), .val (.int (0 : Int32)), .val (.int (2 : Int32)), .val (.int ((ff (iv.toInt.toNat + 1)) &&& (255 : Int32)))] [])) (fun tgt k => ?_) ?_
                      · show Steps p.tables e below (s₁.setTop (mkF m 290 #[.val (.ref ch), .val (.int xf), .val (.int xt), .val (.int (-1 : Int32)), .val (.int iv), .val (.int ((ff iv.toInt.toNat) &&& (255 : Int32))), .val (.int (3 : Int32)), .val (.int lo), .val (.int hi), .val (.int (0 : Int32)), .val (.int (2 : Int32)), .val (.int ((ff (iv.toInt.toNat + 1)) &&& (255 : Int32)))] [])) tgt
                        refine XS.goto X0.here hx rfl (pc0 := 290) (pc' := 211) rfl (hb hby d1_290) (by decide) (by decide) ?_
                        show Steps p.tables e below (s₁.setTop (mkF m 211 #[.val (.ref ch), .val (.int xf), .val (.int xt), .val (.int (-1 : Int32)), .val (.int iv), .val (.int ((ff iv.toInt.toNat) &&& (255 : Int32))), .val (.int (3 : Int32)), .val (.int lo), .val (.int hi), .val (.int (0 : Int32)), .val (.int (2 : Int32)), .val (.int ((ff (iv.toInt.toNat + 1)) &&& (255 : Int32)))] [])) tgt
                        refine XS.iload X0.here hx rfl (hb hby d1_211) rfl ?_
                        show Steps p.tables e below (s₁.setTop (mkF m 213 #[.val (.ref ch), .val (.int xf), .val (.int xt), .val (.int (-1 : Int32)), .val (.int iv), .val (.int ((ff iv.toInt.toNat) &&& (255 : Int32))), .val (.int (3 : Int32)), .val (.int lo), .val (.int hi), .val (.int (0 : Int32)), .val (.int (2 : Int32)), .val (.int ((ff (iv.toInt.toNat + 1)) &&& (255 : Int32)))] [(.int (0 : Int32))])) tgt
                        refine XS.ifYes X0.here hx rfl (pc0 := 213) (pc' := 293) rfl (hb hby d1_213) rfl ((if0 _ _).trans (teq (by decide : (0 : Int32) = (0 : Int32))).1) (by decide) (by decide) ?_
                        show Steps p.tables e below (s₁.setTop (mkF m 293 #[.val (.ref ch), .val (.int xf), .val (.int xt), .val (.int (-1 : Int32)), .val (.int iv), .val (.int ((ff iv.toInt.toNat) &&& (255 : Int32))), .val (.int (3 : Int32)), .val (.int lo), .val (.int hi), .val (.int (0 : Int32)), .val (.int (2 : Int32)), .val (.int ((ff (iv.toInt.toNat + 1)) &&& (255 : Int32)))] [])) tgt
                        refine XS.iload X0.here hx rfl (hb hby d1_293) rfl ?_
                        show Steps p.tables e below (s₁.setTop (mkF m 295 #[.val (.ref ch), .val (.int xf), .val (.int xt), .val (.int (-1 : Int32)), .val (.int iv), .val (.int ((ff iv.toInt.toNat) &&& (255 : Int32))), .val (.int (3 : Int32)), .val (.int lo), .val (.int hi), .val (.int (0 : Int32)), .val (.int (2 : Int32)), .val (.int ((ff (iv.toInt.toNat + 1)) &&& (255 : Int32)))] [(.int (0 : Int32))])) tgt
                        refine XS.ifYes X0.here hx rfl (pc0 := 295) (pc' := 308) rfl (hb hby d1_295) rfl ((if0 _ _).trans (teq (by decide : (0 : Int32) = (0 : Int32))).1) (by decide) (by decide) ?_
                        show Steps p.tables e below (s₁.setTop (mkF m 308 #[.val (.ref ch), .val (.int xf), .val (.int xt), .val (.int (-1 : Int32)), .val (.int iv), .val (.int ((ff iv.toInt.toNat) &&& (255 : Int32))), .val (.int (3 : Int32)), .val (.int lo), .val (.int hi), .val (.int (0 : Int32)), .val (.int (2 : Int32)), .val (.int ((ff (iv.toInt.toNat + 1)) &&& (255 : Int32)))] [])) tgt
                        refine XS.iload X0.here hx rfl (hb hby d1_308) rfl ?_
                        show Steps p.tables e below (s₁.setTop (mkF m 310 #[.val (.ref ch), .val (.int xf), .val (.int xt), .val (.int (-1 : Int32)), .val (.int iv), .val (.int ((ff iv.toInt.toNat) &&& (255 : Int32))), .val (.int (3 : Int32)), .val (.int lo), .val (.int hi), .val (.int (0 : Int32)), .val (.int (2 : Int32)), .val (.int ((ff (iv.toInt.toNat + 1)) &&& (255 : Int32)))] [(.int iv)])) tgt
                        refine XS.istoreN X0.here hx rfl (hb hby d1_310) rfl (l' := #[.val (.ref ch), .val (.int xf), .val (.int xt), .val (.int iv), .val (.int iv), .val (.int ((ff iv.toInt.toNat) &&& (255 : Int32))), .val (.int (3 : Int32)), .val (.int lo), .val (.int hi), .val (.int (0 : Int32)), .val (.int (2 : Int32)), .val (.int ((ff (iv.toInt.toNat + 1)) &&& (255 : Int32)))]) rfl ?_
                        show Steps p.tables e below (s₁.setTop (mkF m 311 #[.val (.ref ch), .val (.int xf), .val (.int xt), .val (.int iv), .val (.int iv), .val (.int ((ff iv.toInt.toNat) &&& (255 : Int32))), .val (.int (3 : Int32)), .val (.int lo), .val (.int hi), .val (.int (0 : Int32)), .val (.int (2 : Int32)), .val (.int ((ff (iv.toInt.toNat + 1)) &&& (255 : Int32)))] [])) tgt
                        refine XS.goto X0.here hx rfl (pc0 := 311) (pc' := 5) rfl (hb hby d1_311) (by decide) (by decide) ?_
                        exact k
                      refine own_st (V := s₁.setTop (mkF m 315 #[.val (.ref ch), .val (.int xf), .val (.int xt), .val (.int iv), .val (.int iv), .val (.int ((ff iv.toInt.toNat) &&& (255 : Int32))), .val (.int (3 : Int32)), .val (.int lo), .val (.int hi), .val (.int (0 : Int32)), .val (.int (2 : Int32)), .val (.int ((ff (iv.toInt.toNat + 1)) &&& (255 : Int32)))] [(.int iv)])) (fun tgt k => ?_) ?_
                      · show Steps p.tables e below (s₁.setTop (mkF m 5 #[.val (.ref ch), .val (.int xf), .val (.int xt), .val (.int iv), .val (.int iv), .val (.int ((ff iv.toInt.toNat) &&& (255 : Int32))), .val (.int (3 : Int32)), .val (.int lo), .val (.int hi), .val (.int (0 : Int32)), .val (.int (2 : Int32)), .val (.int ((ff (iv.toInt.toNat + 1)) &&& (255 : Int32)))] [])) tgt
                        refine XS.iloadN X0.here hx rfl (hb hby d1_5) rfl ?_
                        show Steps p.tables e below (s₁.setTop (mkF m 6 #[.val (.ref ch), .val (.int xf), .val (.int xt), .val (.int iv), .val (.int iv), .val (.int ((ff iv.toInt.toNat) &&& (255 : Int32))), .val (.int (3 : Int32)), .val (.int lo), .val (.int hi), .val (.int (0 : Int32)), .val (.int (2 : Int32)), .val (.int ((ff (iv.toInt.toNat + 1)) &&& (255 : Int32)))] [(.int iv)])) tgt
                        refine XS.ifYes X0.here hx rfl (pc0 := 6) (pc' := 314) rfl (hb hby d1_6) rfl ((if0 _ _).trans (flt (by rw [own_ilt, show (0 : Int32).toInt = 0 from rfl]; omega)).2.1) (by decide) (by decide) ?_
                        show Steps p.tables e below (s₁.setTop (mkF m 314 #[.val (.ref ch), .val (.int xf), .val (.int xt), .val (.int iv), .val (.int iv), .val (.int ((ff iv.toInt.toNat) &&& (255 : Int32))), .val (.int (3 : Int32)), .val (.int lo), .val (.int hi), .val (.int (0 : Int32)), .val (.int (2 : Int32)), .val (.int ((ff (iv.toInt.toNat + 1)) &&& (255 : Int32)))] [])) tgt
                        refine XS.iloadN X0.here hx rfl (hb hby d1_314) rfl ?_
                        exact k
                      refine own_retI X0 hx hlk Bd.returns (hb hby d1_315) ?_ (by decide) (by decide)
                      show Q1 Z ch xf xt ff fu h0 n0 (some (.int iv)) s₁.heap _
                      rw [e0]
                      refine ⟨?_, N0, rfl⟩
                      exact congrArg (fun q => some (Value.int q)) (by rw [← hE, own_bad hc12 (by unfold own_S own_s4; rw [if_neg hc43, if_neg hc57, if_pos hc65, if_neg hc87, ← hlo, ← hhi, if_neg hc198, if_neg hc246, if_pos hc253])])
                    · skip
                      refine own_st (V := s₁.setTop (mkF m 290 #[.val (.ref ch), .val (.int xf), .val (.int xt), .val (.int (-1 : Int32)), .val (.int iv), .val (.int ((ff iv.toInt.toNat) &&& (255 : Int32))), .val (.int (3 : Int32)), .val (.int lo), .val (.int hi), .val (.int (1 : Int32)), .val (.int ((1 : Int32) + (1 : Int32))), .val (.int ((ff (iv.toInt.toNat + 1)) &&& (255 : Int32)))] [])) (fun tgt k => ?_) ?_
                      · show Steps p.tables e below (s₁.setTop (mkF m 253 #[.val (.ref ch), .val (.int xf), .val (.int xt), .val (.int (-1 : Int32)), .val (.int iv), .val (.int ((ff iv.toInt.toNat) &&& (255 : Int32))), .val (.int (3 : Int32)), .val (.int lo), .val (.int hi), .val (.int (1 : Int32)), .val (.int (1 : Int32)), .val (.int ((ff (iv.toInt.toNat + 1)) &&& (255 : Int32)))] [(.int hi), (.int ((ff (iv.toInt.toNat + 1)) &&& (255 : Int32)))])) tgt
                        refine XS.icmpNo X0.here hx rfl (hb hby d1_253) rfl (flt hc253).2.2.1 ?_
                        show Steps p.tables e below (s₁.setTop (mkF m 256 #[.val (.ref ch), .val (.int xf), .val (.int xt), .val (.int (-1 : Int32)), .val (.int iv), .val (.int ((ff iv.toInt.toNat) &&& (255 : Int32))), .val (.int (3 : Int32)), .val (.int lo), .val (.int hi), .val (.int (1 : Int32)), .val (.int (1 : Int32)), .val (.int ((ff (iv.toInt.toNat + 1)) &&& (255 : Int32)))] [])) tgt
                        refine XS.iconst X0.here hx rfl (hb hby d1_256) ?_
                        show Steps p.tables e below (s₁.setTop (mkF m 257 #[.val (.ref ch), .val (.int xf), .val (.int xt), .val (.int (-1 : Int32)), .val (.int iv), .val (.int ((ff iv.toInt.toNat) &&& (255 : Int32))), .val (.int (3 : Int32)), .val (.int lo), .val (.int hi), .val (.int (1 : Int32)), .val (.int (1 : Int32)), .val (.int ((ff (iv.toInt.toNat + 1)) &&& (255 : Int32)))] [(.int (1 : Int32))])) tgt
                        refine XS.goto X0.here hx rfl (pc0 := 257) (pc' := 285) rfl (hb hby d1_257) (by decide) (by decide) ?_
                        show Steps p.tables e below (s₁.setTop (mkF m 285 #[.val (.ref ch), .val (.int xf), .val (.int xt), .val (.int (-1 : Int32)), .val (.int iv), .val (.int ((ff iv.toInt.toNat) &&& (255 : Int32))), .val (.int (3 : Int32)), .val (.int lo), .val (.int hi), .val (.int (1 : Int32)), .val (.int (1 : Int32)), .val (.int ((ff (iv.toInt.toNat + 1)) &&& (255 : Int32)))] [(.int (1 : Int32))])) tgt
                        refine XS.istore X0.here hx rfl (hb hby d1_285) rfl (l' := #[.val (.ref ch), .val (.int xf), .val (.int xt), .val (.int (-1 : Int32)), .val (.int iv), .val (.int ((ff iv.toInt.toNat) &&& (255 : Int32))), .val (.int (3 : Int32)), .val (.int lo), .val (.int hi), .val (.int (1 : Int32)), .val (.int (1 : Int32)), .val (.int ((ff (iv.toInt.toNat + 1)) &&& (255 : Int32)))]) rfl ?_
                        show Steps p.tables e below (s₁.setTop (mkF m 287 #[.val (.ref ch), .val (.int xf), .val (.int xt), .val (.int (-1 : Int32)), .val (.int iv), .val (.int ((ff iv.toInt.toNat) &&& (255 : Int32))), .val (.int (3 : Int32)), .val (.int lo), .val (.int hi), .val (.int (1 : Int32)), .val (.int (1 : Int32)), .val (.int ((ff (iv.toInt.toNat + 1)) &&& (255 : Int32)))] [])) tgt
                        refine XS.iinc X0.here hx rfl (hb hby d1_287) rfl (l' := #[.val (.ref ch), .val (.int xf), .val (.int xt), .val (.int (-1 : Int32)), .val (.int iv), .val (.int ((ff iv.toInt.toNat) &&& (255 : Int32))), .val (.int (3 : Int32)), .val (.int lo), .val (.int hi), .val (.int (1 : Int32)), .val (.int ((1 : Int32) + (1 : Int32))), .val (.int ((ff (iv.toInt.toNat + 1)) &&& (255 : Int32)))]) rfl ?_
                        exact k
                      rw [show ((1 : Int32) + (1 : Int32)) = (2 : Int32) from by decide]
                      refine own_st (V := s₁.setTop (mkF m 269 #[.val (.ref ch), .val (.int xf), .val (.int xt), .val (.int (-1 : Int32)), .val (.int iv), .val (.int ((ff iv.toInt.toNat) &&& (255 : Int32))), .val (.int (3 : Int32)), .val (.int lo), .val (.int hi), .val (.int (1 : Int32)), .val (.int (2 : Int32)), .val (.int ((ff (iv.toInt.toNat + 2)) &&& (255 : Int32)))] [(.int (128 : Int32)), (.int ((ff (iv.toInt.toNat + 2)) &&& (255 : Int32)))])) (fun tgt k => ?_) ?_
                      · show Steps p.tables e below (s₁.setTop (mkF m 290 #[.val (.ref ch), .val (.int xf), .val (.int xt), .val (.int (-1 : Int32)), .val (.int iv), .val (.int ((ff iv.toInt.toNat) &&& (255 : Int32))), .val (.int (3 : Int32)), .val (.int lo), .val (.int hi), .val (.int (1 : Int32)), .val (.int (2 : Int32)), .val (.int ((ff (iv.toInt.toNat + 1)) &&& (255 : Int32)))] [])) tgt
                        refine XS.goto X0.here hx rfl (pc0 := 290) (pc' := 211) rfl (hb hby d1_290) (by decide) (by decide) ?_
                        show Steps p.tables e below (s₁.setTop (mkF m 211 #[.val (.ref ch), .val (.int xf), .val (.int xt), .val (.int (-1 : Int32)), .val (.int iv), .val (.int ((ff iv.toInt.toNat) &&& (255 : Int32))), .val (.int (3 : Int32)), .val (.int lo), .val (.int hi), .val (.int (1 : Int32)), .val (.int (2 : Int32)), .val (.int ((ff (iv.toInt.toNat + 1)) &&& (255 : Int32)))] [])) tgt
                        refine XS.iload X0.here hx rfl (hb hby d1_211) rfl ?_
                        show Steps p.tables e below (s₁.setTop (mkF m 213 #[.val (.ref ch), .val (.int xf), .val (.int xt), .val (.int (-1 : Int32)), .val (.int iv), .val (.int ((ff iv.toInt.toNat) &&& (255 : Int32))), .val (.int (3 : Int32)), .val (.int lo), .val (.int hi), .val (.int (1 : Int32)), .val (.int (2 : Int32)), .val (.int ((ff (iv.toInt.toNat + 1)) &&& (255 : Int32)))] [(.int (1 : Int32))])) tgt
                        refine XS.ifNo X0.here hx rfl (hb hby d1_213) rfl ((if0 _ _).trans (feq (by decide : ¬ ((1 : Int32) = (0 : Int32)))).1) ?_
                        show Steps p.tables e below (s₁.setTop (mkF m 216 #[.val (.ref ch), .val (.int xf), .val (.int xt), .val (.int (-1 : Int32)), .val (.int iv), .val (.int ((ff iv.toInt.toNat) &&& (255 : Int32))), .val (.int (3 : Int32)), .val (.int lo), .val (.int hi), .val (.int (1 : Int32)), .val (.int (2 : Int32)), .val (.int ((ff (iv.toInt.toNat + 1)) &&& (255 : Int32)))] [])) tgt
                        refine XS.iload X0.here hx rfl (hb hby d1_216) rfl ?_
                        show Steps p.tables e below (s₁.setTop (mkF m 218 #[.val (.ref ch), .val (.int xf), .val (.int xt), .val (.int (-1 : Int32)), .val (.int iv), .val (.int ((ff iv.toInt.toNat) &&& (255 : Int32))), .val (.int (3 : Int32)), .val (.int lo), .val (.int hi), .val (.int (1 : Int32)), .val (.int (2 : Int32)), .val (.int ((ff (iv.toInt.toNat + 1)) &&& (255 : Int32)))] [(.int (2 : Int32))])) tgt
                        refine XS.iload X0.here hx rfl (hb hby d1_218) rfl ?_
                        show Steps p.tables e below (s₁.setTop (mkF m 220 #[.val (.ref ch), .val (.int xf), .val (.int xt), .val (.int (-1 : Int32)), .val (.int iv), .val (.int ((ff iv.toInt.toNat) &&& (255 : Int32))), .val (.int (3 : Int32)), .val (.int lo), .val (.int hi), .val (.int (1 : Int32)), .val (.int (2 : Int32)), .val (.int ((ff (iv.toInt.toNat + 1)) &&& (255 : Int32)))] [(.int (3 : Int32)), (.int (2 : Int32))])) tgt
                        refine XS.icmpNo X0.here hx rfl (hb hby d1_220) rfl (tlt (by decide : (2 : Int32) < (3 : Int32))).2.1 ?_
                        show Steps p.tables e below (s₁.setTop (mkF m 223 #[.val (.ref ch), .val (.int xf), .val (.int xt), .val (.int (-1 : Int32)), .val (.int iv), .val (.int ((ff iv.toInt.toNat) &&& (255 : Int32))), .val (.int (3 : Int32)), .val (.int lo), .val (.int hi), .val (.int (1 : Int32)), .val (.int (2 : Int32)), .val (.int ((ff (iv.toInt.toNat + 1)) &&& (255 : Int32)))] [])) tgt
                        refine XS.aloadN X0.here hx rfl (hb hby d1_223) rfl rfl ?_
                        show Steps p.tables e below (s₁.setTop (mkF m 224 #[.val (.ref ch), .val (.int xf), .val (.int xt), .val (.int (-1 : Int32)), .val (.int iv), .val (.int ((ff iv.toInt.toNat) &&& (255 : Int32))), .val (.int (3 : Int32)), .val (.int lo), .val (.int hi), .val (.int (1 : Int32)), .val (.int (2 : Int32)), .val (.int ((ff (iv.toInt.toNat + 1)) &&& (255 : Int32)))] [(.ref ch)])) tgt
                        refine XS.iload X0.here hx rfl (hb hby d1_224) rfl ?_
                        show Steps p.tables e below (s₁.setTop (mkF m 226 #[.val (.ref ch), .val (.int xf), .val (.int xt), .val (.int (-1 : Int32)), .val (.int iv), .val (.int ((ff iv.toInt.toNat) &&& (255 : Int32))), .val (.int (3 : Int32)), .val (.int lo), .val (.int hi), .val (.int (1 : Int32)), .val (.int (2 : Int32)), .val (.int ((ff (iv.toInt.toNat + 1)) &&& (255 : Int32)))] [(.int iv), (.ref ch)])) tgt
                        refine XS.iload X0.here hx rfl (hb hby d1_226) rfl ?_
                        show Steps p.tables e below (s₁.setTop (mkF m 228 #[.val (.ref ch), .val (.int xf), .val (.int xt), .val (.int (-1 : Int32)), .val (.int iv), .val (.int ((ff iv.toInt.toNat) &&& (255 : Int32))), .val (.int (3 : Int32)), .val (.int lo), .val (.int hi), .val (.int (1 : Int32)), .val (.int (2 : Int32)), .val (.int ((ff (iv.toInt.toNat + 1)) &&& (255 : Int32)))] [(.int (2 : Int32)), (.int iv), (.ref ch)])) tgt
                        refine XS.iadd X0.here hx rfl (hb hby d1_228) rfl ?_
                        show Steps p.tables e below (s₁.setTop (mkF m 229 #[.val (.ref ch), .val (.int xf), .val (.int xt), .val (.int (-1 : Int32)), .val (.int iv), .val (.int ((ff iv.toInt.toNat) &&& (255 : Int32))), .val (.int (3 : Int32)), .val (.int lo), .val (.int hi), .val (.int (1 : Int32)), .val (.int (2 : Int32)), .val (.int ((ff (iv.toInt.toNat + 1)) &&& (255 : Int32)))] [(.int (iv + (2 : Int32))), (.ref ch)])) tgt
                        refine own_baload X0 hx hZ e0 A1 (j := (iv + (2 : Int32))) (k := (iv.toInt.toNat + 2)) a2 (by rw [own_ilt] at hc12; have := hfit; omega) (g := (mkF m 229 #[.val (.ref ch), .val (.int xf), .val (.int xt), .val (.int (-1 : Int32)), .val (.int iv), .val (.int ((ff iv.toInt.toNat) &&& (255 : Int32))), .val (.int (3 : Int32)), .val (.int lo), .val (.int hi), .val (.int (1 : Int32)), .val (.int (2 : Int32)), .val (.int ((ff (iv.toInt.toNat + 1)) &&& (255 : Int32)))] [(.int (iv + (2 : Int32))), (.ref ch)])) rfl rfl (hb hby d1_229) ?_
                        show Steps p.tables e below (s₁.setTop (mkF m 230 #[.val (.ref ch), .val (.int xf), .val (.int xt), .val (.int (-1 : Int32)), .val (.int iv), .val (.int ((ff iv.toInt.toNat) &&& (255 : Int32))), .val (.int (3 : Int32)), .val (.int lo), .val (.int hi), .val (.int (1 : Int32)), .val (.int (2 : Int32)), .val (.int ((ff (iv.toInt.toNat + 1)) &&& (255 : Int32)))] [(.int (ff (iv.toInt.toNat + 2)))])) tgt
                        refine XS.sipush X0.here hx rfl (hb hby d1_230) ?_
                        show Steps p.tables e below (s₁.setTop (mkF m 233 #[.val (.ref ch), .val (.int xf), .val (.int xt), .val (.int (-1 : Int32)), .val (.int iv), .val (.int ((ff iv.toInt.toNat) &&& (255 : Int32))), .val (.int (3 : Int32)), .val (.int lo), .val (.int hi), .val (.int (1 : Int32)), .val (.int (2 : Int32)), .val (.int ((ff (iv.toInt.toNat + 1)) &&& (255 : Int32)))] [(.int (255 : Int32)), (.int (ff (iv.toInt.toNat + 2)))])) tgt
                        refine XS.iand X0.here hx rfl (hb hby d1_233) rfl ?_
                        show Steps p.tables e below (s₁.setTop (mkF m 234 #[.val (.ref ch), .val (.int xf), .val (.int xt), .val (.int (-1 : Int32)), .val (.int iv), .val (.int ((ff iv.toInt.toNat) &&& (255 : Int32))), .val (.int (3 : Int32)), .val (.int lo), .val (.int hi), .val (.int (1 : Int32)), .val (.int (2 : Int32)), .val (.int ((ff (iv.toInt.toNat + 1)) &&& (255 : Int32)))] [(.int ((ff (iv.toInt.toNat + 2)) &&& (255 : Int32)))])) tgt
                        refine XS.istore X0.here hx rfl (hb hby d1_234) rfl (l' := #[.val (.ref ch), .val (.int xf), .val (.int xt), .val (.int (-1 : Int32)), .val (.int iv), .val (.int ((ff iv.toInt.toNat) &&& (255 : Int32))), .val (.int (3 : Int32)), .val (.int lo), .val (.int hi), .val (.int (1 : Int32)), .val (.int (2 : Int32)), .val (.int ((ff (iv.toInt.toNat + 2)) &&& (255 : Int32)))]) rfl ?_
                        show Steps p.tables e below (s₁.setTop (mkF m 236 #[.val (.ref ch), .val (.int xf), .val (.int xt), .val (.int (-1 : Int32)), .val (.int iv), .val (.int ((ff iv.toInt.toNat) &&& (255 : Int32))), .val (.int (3 : Int32)), .val (.int lo), .val (.int hi), .val (.int (1 : Int32)), .val (.int (2 : Int32)), .val (.int ((ff (iv.toInt.toNat + 2)) &&& (255 : Int32)))] [])) tgt
                        refine XS.iload X0.here hx rfl (hb hby d1_236) rfl ?_
                        show Steps p.tables e below (s₁.setTop (mkF m 238 #[.val (.ref ch), .val (.int xf), .val (.int xt), .val (.int (-1 : Int32)), .val (.int iv), .val (.int ((ff iv.toInt.toNat) &&& (255 : Int32))), .val (.int (3 : Int32)), .val (.int lo), .val (.int hi), .val (.int (1 : Int32)), .val (.int (2 : Int32)), .val (.int ((ff (iv.toInt.toNat + 2)) &&& (255 : Int32)))] [(.int (2 : Int32))])) tgt
                        refine XS.iconst X0.here hx rfl (hb hby d1_238) ?_
                        show Steps p.tables e below (s₁.setTop (mkF m 239 #[.val (.ref ch), .val (.int xf), .val (.int xt), .val (.int (-1 : Int32)), .val (.int iv), .val (.int ((ff iv.toInt.toNat) &&& (255 : Int32))), .val (.int (3 : Int32)), .val (.int lo), .val (.int hi), .val (.int (1 : Int32)), .val (.int (2 : Int32)), .val (.int ((ff (iv.toInt.toNat + 2)) &&& (255 : Int32)))] [(.int (1 : Int32)), (.int (2 : Int32))])) tgt
                        refine XS.icmpYes X0.here hx rfl (pc0 := 239) (pc' := 264) rfl (hb hby d1_239) rfl (feq (by decide : ¬ ((2 : Int32) = (1 : Int32)))).2 (by decide) (by decide) ?_
                        show Steps p.tables e below (s₁.setTop (mkF m 264 #[.val (.ref ch), .val (.int xf), .val (.int xt), .val (.int (-1 : Int32)), .val (.int iv), .val (.int ((ff iv.toInt.toNat) &&& (255 : Int32))), .val (.int (3 : Int32)), .val (.int lo), .val (.int hi), .val (.int (1 : Int32)), .val (.int (2 : Int32)), .val (.int ((ff (iv.toInt.toNat + 2)) &&& (255 : Int32)))] [])) tgt
                        refine XS.iload X0.here hx rfl (hb hby d1_264) rfl ?_
                        show Steps p.tables e below (s₁.setTop (mkF m 266 #[.val (.ref ch), .val (.int xf), .val (.int xt), .val (.int (-1 : Int32)), .val (.int iv), .val (.int ((ff iv.toInt.toNat) &&& (255 : Int32))), .val (.int (3 : Int32)), .val (.int lo), .val (.int hi), .val (.int (1 : Int32)), .val (.int (2 : Int32)), .val (.int ((ff (iv.toInt.toNat + 2)) &&& (255 : Int32)))] [(.int ((ff (iv.toInt.toNat + 2)) &&& (255 : Int32)))])) tgt
                        refine XS.sipush X0.here hx rfl (hb hby d1_266) ?_
                        exact k
                      by_cases hc269 : ((ff (iv.toInt.toNat + 2)) &&& (255 : Int32)) < (128 : Int32)
                      · skip
                        refine own_st (V := s₁.setTop (mkF m 290 #[.val (.ref ch), .val (.int xf), .val (.int xt), .val (.int (-1 : Int32)), .val (.int iv), .val (.int ((ff iv.toInt.toNat) &&& (255 : Int32))), .val (.int (3 : Int32)), .val (.int lo), .val (.int hi), .val (.int (0 : Int32)), .val (.int ((2 : Int32) + (1 : Int32))), .val (.int ((ff (iv.toInt.toNat + 2)) &&& (255 : Int32)))] [])) (fun tgt k => ?_) ?_
                        · show Steps p.tables e below (s₁.setTop (mkF m 269 #[.val (.ref ch), .val (.int xf), .val (.int xt), .val (.int (-1 : Int32)), .val (.int iv), .val (.int ((ff iv.toInt.toNat) &&& (255 : Int32))), .val (.int (3 : Int32)), .val (.int lo), .val (.int hi), .val (.int (1 : Int32)), .val (.int (2 : Int32)), .val (.int ((ff (iv.toInt.toNat + 2)) &&& (255 : Int32)))] [(.int (128 : Int32)), (.int ((ff (iv.toInt.toNat + 2)) &&& (255 : Int32)))])) tgt
                          refine XS.icmpYes X0.here hx rfl (pc0 := 269) (pc' := 284) rfl (hb hby d1_269) rfl (tlt hc269).1 (by decide) (by decide) ?_
                          show Steps p.tables e below (s₁.setTop (mkF m 284 #[.val (.ref ch), .val (.int xf), .val (.int xt), .val (.int (-1 : Int32)), .val (.int iv), .val (.int ((ff iv.toInt.toNat) &&& (255 : Int32))), .val (.int (3 : Int32)), .val (.int lo), .val (.int hi), .val (.int (1 : Int32)), .val (.int (2 : Int32)), .val (.int ((ff (iv.toInt.toNat + 2)) &&& (255 : Int32)))] [])) tgt
                          refine XS.iconst X0.here hx rfl (hb hby d1_284) ?_
                          show Steps p.tables e below (s₁.setTop (mkF m 285 #[.val (.ref ch), .val (.int xf), .val (.int xt), .val (.int (-1 : Int32)), .val (.int iv), .val (.int ((ff iv.toInt.toNat) &&& (255 : Int32))), .val (.int (3 : Int32)), .val (.int lo), .val (.int hi), .val (.int (1 : Int32)), .val (.int (2 : Int32)), .val (.int ((ff (iv.toInt.toNat + 2)) &&& (255 : Int32)))] [(.int (0 : Int32))])) tgt
                          refine XS.istore X0.here hx rfl (hb hby d1_285) rfl (l' := #[.val (.ref ch), .val (.int xf), .val (.int xt), .val (.int (-1 : Int32)), .val (.int iv), .val (.int ((ff iv.toInt.toNat) &&& (255 : Int32))), .val (.int (3 : Int32)), .val (.int lo), .val (.int hi), .val (.int (0 : Int32)), .val (.int (2 : Int32)), .val (.int ((ff (iv.toInt.toNat + 2)) &&& (255 : Int32)))]) rfl ?_
                          show Steps p.tables e below (s₁.setTop (mkF m 287 #[.val (.ref ch), .val (.int xf), .val (.int xt), .val (.int (-1 : Int32)), .val (.int iv), .val (.int ((ff iv.toInt.toNat) &&& (255 : Int32))), .val (.int (3 : Int32)), .val (.int lo), .val (.int hi), .val (.int (0 : Int32)), .val (.int (2 : Int32)), .val (.int ((ff (iv.toInt.toNat + 2)) &&& (255 : Int32)))] [])) tgt
                          refine XS.iinc X0.here hx rfl (hb hby d1_287) rfl (l' := #[.val (.ref ch), .val (.int xf), .val (.int xt), .val (.int (-1 : Int32)), .val (.int iv), .val (.int ((ff iv.toInt.toNat) &&& (255 : Int32))), .val (.int (3 : Int32)), .val (.int lo), .val (.int hi), .val (.int (0 : Int32)), .val (.int ((2 : Int32) + (1 : Int32))), .val (.int ((ff (iv.toInt.toNat + 2)) &&& (255 : Int32)))]) rfl ?_
                          exact k
                        rw [show ((2 : Int32) + (1 : Int32)) = (3 : Int32) from by decide]
                        refine own_st (V := s₁.setTop (mkF m 5 #[.val (.ref ch), .val (.int xf), .val (.int xt), .val (.int iv), .val (.int iv), .val (.int ((ff iv.toInt.toNat) &&& (255 : Int32))), .val (.int (3 : Int32)), .val (.int lo), .val (.int hi), .val (.int (0 : Int32)), .val (.int (3 : Int32)), .val (.int ((ff (iv.toInt.toNat + 2)) &&& (255 : Int32)))] [])) (fun tgt k => ?_) ?_
                        · show Steps p.tables e below (s₁.setTop (mkF m 290 #[.val (.ref ch), .val (.int xf), .val (.int xt), .val (.int (-1 : Int32)), .val (.int iv), .val (.int ((ff iv.toInt.toNat) &&& (255 : Int32))), .val (.int (3 : Int32)), .val (.int lo), .val (.int hi), .val (.int (0 : Int32)), .val (.int (3 : Int32)), .val (.int ((ff (iv.toInt.toNat + 2)) &&& (255 : Int32)))] [])) tgt
                          refine XS.goto X0.here hx rfl (pc0 := 290) (pc' := 211) rfl (hb hby d1_290) (by decide) (by decide) ?_
                          show Steps p.tables e below (s₁.setTop (mkF m 211 #[.val (.ref ch), .val (.int xf), .val (.int xt), .val (.int (-1 : Int32)), .val (.int iv), .val (.int ((ff iv.toInt.toNat) &&& (255 : Int32))), .val (.int (3 : Int32)), .val (.int lo), .val (.int hi), .val (.int (0 : Int32)), .val (.int (3 : Int32)), .val (.int ((ff (iv.toInt.toNat + 2)) &&& (255 : Int32)))] [])) tgt
                          refine XS.iload X0.here hx rfl (hb hby d1_211) rfl ?_
                          show Steps p.tables e below (s₁.setTop (mkF m 213 #[.val (.ref ch), .val (.int xf), .val (.int xt), .val (.int (-1 : Int32)), .val (.int iv), .val (.int ((ff iv.toInt.toNat) &&& (255 : Int32))), .val (.int (3 : Int32)), .val (.int lo), .val (.int hi), .val (.int (0 : Int32)), .val (.int (3 : Int32)), .val (.int ((ff (iv.toInt.toNat + 2)) &&& (255 : Int32)))] [(.int (0 : Int32))])) tgt
                          refine XS.ifYes X0.here hx rfl (pc0 := 213) (pc' := 293) rfl (hb hby d1_213) rfl ((if0 _ _).trans (teq (by decide : (0 : Int32) = (0 : Int32))).1) (by decide) (by decide) ?_
                          show Steps p.tables e below (s₁.setTop (mkF m 293 #[.val (.ref ch), .val (.int xf), .val (.int xt), .val (.int (-1 : Int32)), .val (.int iv), .val (.int ((ff iv.toInt.toNat) &&& (255 : Int32))), .val (.int (3 : Int32)), .val (.int lo), .val (.int hi), .val (.int (0 : Int32)), .val (.int (3 : Int32)), .val (.int ((ff (iv.toInt.toNat + 2)) &&& (255 : Int32)))] [])) tgt
                          refine XS.iload X0.here hx rfl (hb hby d1_293) rfl ?_
                          show Steps p.tables e below (s₁.setTop (mkF m 295 #[.val (.ref ch), .val (.int xf), .val (.int xt), .val (.int (-1 : Int32)), .val (.int iv), .val (.int ((ff iv.toInt.toNat) &&& (255 : Int32))), .val (.int (3 : Int32)), .val (.int lo), .val (.int hi), .val (.int (0 : Int32)), .val (.int (3 : Int32)), .val (.int ((ff (iv.toInt.toNat + 2)) &&& (255 : Int32)))] [(.int (0 : Int32))])) tgt
                          refine XS.ifYes X0.here hx rfl (pc0 := 295) (pc' := 308) rfl (hb hby d1_295) rfl ((if0 _ _).trans (teq (by decide : (0 : Int32) = (0 : Int32))).1) (by decide) (by decide) ?_
                          show Steps p.tables e below (s₁.setTop (mkF m 308 #[.val (.ref ch), .val (.int xf), .val (.int xt), .val (.int (-1 : Int32)), .val (.int iv), .val (.int ((ff iv.toInt.toNat) &&& (255 : Int32))), .val (.int (3 : Int32)), .val (.int lo), .val (.int hi), .val (.int (0 : Int32)), .val (.int (3 : Int32)), .val (.int ((ff (iv.toInt.toNat + 2)) &&& (255 : Int32)))] [])) tgt
                          refine XS.iload X0.here hx rfl (hb hby d1_308) rfl ?_
                          show Steps p.tables e below (s₁.setTop (mkF m 310 #[.val (.ref ch), .val (.int xf), .val (.int xt), .val (.int (-1 : Int32)), .val (.int iv), .val (.int ((ff iv.toInt.toNat) &&& (255 : Int32))), .val (.int (3 : Int32)), .val (.int lo), .val (.int hi), .val (.int (0 : Int32)), .val (.int (3 : Int32)), .val (.int ((ff (iv.toInt.toNat + 2)) &&& (255 : Int32)))] [(.int iv)])) tgt
                          refine XS.istoreN X0.here hx rfl (hb hby d1_310) rfl (l' := #[.val (.ref ch), .val (.int xf), .val (.int xt), .val (.int iv), .val (.int iv), .val (.int ((ff iv.toInt.toNat) &&& (255 : Int32))), .val (.int (3 : Int32)), .val (.int lo), .val (.int hi), .val (.int (0 : Int32)), .val (.int (3 : Int32)), .val (.int ((ff (iv.toInt.toNat + 2)) &&& (255 : Int32)))]) rfl ?_
                          show Steps p.tables e below (s₁.setTop (mkF m 311 #[.val (.ref ch), .val (.int xf), .val (.int xt), .val (.int iv), .val (.int iv), .val (.int ((ff iv.toInt.toNat) &&& (255 : Int32))), .val (.int (3 : Int32)), .val (.int lo), .val (.int hi), .val (.int (0 : Int32)), .val (.int (3 : Int32)), .val (.int ((ff (iv.toInt.toNat + 2)) &&& (255 : Int32)))] [])) tgt
                          refine XS.goto X0.here hx rfl (pc0 := 311) (pc' := 5) rfl (hb hby d1_311) (by decide) (by decide) ?_
                          exact k
                        refine own_st (V := s₁.setTop (mkF m 315 #[.val (.ref ch), .val (.int xf), .val (.int xt), .val (.int iv), .val (.int iv), .val (.int ((ff iv.toInt.toNat) &&& (255 : Int32))), .val (.int (3 : Int32)), .val (.int lo), .val (.int hi), .val (.int (0 : Int32)), .val (.int (3 : Int32)), .val (.int ((ff (iv.toInt.toNat + 2)) &&& (255 : Int32)))] [(.int iv)])) (fun tgt k => ?_) ?_
                        · show Steps p.tables e below (s₁.setTop (mkF m 5 #[.val (.ref ch), .val (.int xf), .val (.int xt), .val (.int iv), .val (.int iv), .val (.int ((ff iv.toInt.toNat) &&& (255 : Int32))), .val (.int (3 : Int32)), .val (.int lo), .val (.int hi), .val (.int (0 : Int32)), .val (.int (3 : Int32)), .val (.int ((ff (iv.toInt.toNat + 2)) &&& (255 : Int32)))] [])) tgt
                          refine XS.iloadN X0.here hx rfl (hb hby d1_5) rfl ?_
                          show Steps p.tables e below (s₁.setTop (mkF m 6 #[.val (.ref ch), .val (.int xf), .val (.int xt), .val (.int iv), .val (.int iv), .val (.int ((ff iv.toInt.toNat) &&& (255 : Int32))), .val (.int (3 : Int32)), .val (.int lo), .val (.int hi), .val (.int (0 : Int32)), .val (.int (3 : Int32)), .val (.int ((ff (iv.toInt.toNat + 2)) &&& (255 : Int32)))] [(.int iv)])) tgt
                          refine XS.ifYes X0.here hx rfl (pc0 := 6) (pc' := 314) rfl (hb hby d1_6) rfl ((if0 _ _).trans (flt (by rw [own_ilt, show (0 : Int32).toInt = 0 from rfl]; omega)).2.1) (by decide) (by decide) ?_
                          show Steps p.tables e below (s₁.setTop (mkF m 314 #[.val (.ref ch), .val (.int xf), .val (.int xt), .val (.int iv), .val (.int iv), .val (.int ((ff iv.toInt.toNat) &&& (255 : Int32))), .val (.int (3 : Int32)), .val (.int lo), .val (.int hi), .val (.int (0 : Int32)), .val (.int (3 : Int32)), .val (.int ((ff (iv.toInt.toNat + 2)) &&& (255 : Int32)))] [])) tgt
                          refine XS.iloadN X0.here hx rfl (hb hby d1_314) rfl ?_
                          exact k
                        refine own_retI X0 hx hlk Bd.returns (hb hby d1_315) ?_ (by decide) (by decide)
                        show Q1 Z ch xf xt ff fu h0 n0 (some (.int iv)) s₁.heap _
                        rw [e0]
                        refine ⟨?_, N0, rfl⟩
                        exact congrArg (fun q => some (Value.int q)) (by rw [← hE, own_bad hc12 (by unfold own_S own_s4; rw [if_neg hc43, if_neg hc57, if_pos hc65, if_neg hc87, ← hlo, ← hhi, if_neg hc198, if_neg hc246, if_neg hc253, if_pos hc269])])
                      · skip
                        refine own_st (V := s₁.setTop (mkF m 277 #[.val (.ref ch), .val (.int xf), .val (.int xt), .val (.int (-1 : Int32)), .val (.int iv), .val (.int ((ff iv.toInt.toNat) &&& (255 : Int32))), .val (.int (3 : Int32)), .val (.int lo), .val (.int hi), .val (.int (1 : Int32)), .val (.int (2 : Int32)), .val (.int ((ff (iv.toInt.toNat + 2)) &&& (255 : Int32)))] [(.int (191 : Int32)), (.int ((ff (iv.toInt.toNat + 2)) &&& (255 : Int32)))])) (fun tgt k => ?_) ?_
                        · show Steps p.tables e below (s₁.setTop (mkF m 269 #[.val (.ref ch), .val (.int xf), .val (.int xt), .val (.int (-1 : Int32)), .val (.int iv), .val (.int ((ff iv.toInt.toNat) &&& (255 : Int32))), .val (.int (3 : Int32)), .val (.int lo), .val (.int hi), .val (.int (1 : Int32)), .val (.int (2 : Int32)), .val (.int ((ff (iv.toInt.toNat + 2)) &&& (255 : Int32)))] [(.int (128 : Int32)), (.int ((ff (iv.toInt.toNat + 2)) &&& (255 : Int32)))])) tgt
                          refine XS.icmpNo X0.here hx rfl (hb hby d1_269) rfl (flt hc269).1 ?_
                          show Steps p.tables e below (s₁.setTop (mkF m 272 #[.val (.ref ch), .val (.int xf), .val (.int xt), .val (.int (-1 : Int32)), .val (.int iv), .val (.int ((ff iv.toInt.toNat) &&& (255 : Int32))), .val (.int (3 : Int32)), .val (.int lo), .val (.int hi), .val (.int (1 : Int32)), .val (.int (2 : Int32)), .val (.int ((ff (iv.toInt.toNat + 2)) &&& (255 : Int32)))] [])) tgt
                          refine XS.iload X0.here hx rfl (hb hby d1_272) rfl ?_
                          show Steps p.tables e below (s₁.setTop (mkF m 274 #[.val (.ref ch), .val (.int xf), .val (.int xt), .val (.int (-1 : Int32)), .val (.int iv), .val (.int ((ff iv.toInt.toNat) &&& (255 : Int32))), .val (.int (3 : Int32)), .val (.int lo), .val (.int hi), .val (.int (1 : Int32)), .val (.int (2 : Int32)), .val (.int ((ff (iv.toInt.toNat + 2)) &&& (255 : Int32)))] [(.int ((ff (iv.toInt.toNat + 2)) &&& (255 : Int32)))])) tgt
                          refine XS.sipush X0.here hx rfl (hb hby d1_274) ?_
                          exact k
                        by_cases hc277 : (191 : Int32) < ((ff (iv.toInt.toNat + 2)) &&& (255 : Int32))
                        · skip
                          refine own_st (V := s₁.setTop (mkF m 290 #[.val (.ref ch), .val (.int xf), .val (.int xt), .val (.int (-1 : Int32)), .val (.int iv), .val (.int ((ff iv.toInt.toNat) &&& (255 : Int32))), .val (.int (3 : Int32)), .val (.int lo), .val (.int hi), .val (.int (0 : Int32)), .val (.int ((2 : Int32) + (1 : Int32))), .val (.int ((ff (iv.toInt.toNat + 2)) &&& (255 : Int32)))] [])) (fun tgt k => ?_) ?_
                          · show Steps p.tables e below (s₁.setTop (mkF m 277 #[.val (.ref ch), .val (.int xf), .val (.int xt), .val (.int (-1 : Int32)), .val (.int iv), .val (.int ((ff iv.toInt.toNat) &&& (255 : Int32))), .val (.int (3 : Int32)), .val (.int lo), .val (.int hi), .val (.int (1 : Int32)), .val (.int (2 : Int32)), .val (.int ((ff (iv.toInt.toNat + 2)) &&& (255 : Int32)))] [(.int (191 : Int32)), (.int ((ff (iv.toInt.toNat + 2)) &&& (255 : Int32)))])) tgt
                            refine XS.icmpYes X0.here hx rfl (pc0 := 277) (pc' := 284) rfl (hb hby d1_277) rfl (tlt hc277).2.2.1 (by decide) (by decide) ?_
                            show Steps p.tables e below (s₁.setTop (mkF m 284 #[.val (.ref ch), .val (.int xf), .val (.int xt), .val (.int (-1 : Int32)), .val (.int iv), .val (.int ((ff iv.toInt.toNat) &&& (255 : Int32))), .val (.int (3 : Int32)), .val (.int lo), .val (.int hi), .val (.int (1 : Int32)), .val (.int (2 : Int32)), .val (.int ((ff (iv.toInt.toNat + 2)) &&& (255 : Int32)))] [])) tgt
                            refine XS.iconst X0.here hx rfl (hb hby d1_284) ?_
                            show Steps p.tables e below (s₁.setTop (mkF m 285 #[.val (.ref ch), .val (.int xf), .val (.int xt), .val (.int (-1 : Int32)), .val (.int iv), .val (.int ((ff iv.toInt.toNat) &&& (255 : Int32))), .val (.int (3 : Int32)), .val (.int lo), .val (.int hi), .val (.int (1 : Int32)), .val (.int (2 : Int32)), .val (.int ((ff (iv.toInt.toNat + 2)) &&& (255 : Int32)))] [(.int (0 : Int32))])) tgt
                            refine XS.istore X0.here hx rfl (hb hby d1_285) rfl (l' := #[.val (.ref ch), .val (.int xf), .val (.int xt), .val (.int (-1 : Int32)), .val (.int iv), .val (.int ((ff iv.toInt.toNat) &&& (255 : Int32))), .val (.int (3 : Int32)), .val (.int lo), .val (.int hi), .val (.int (0 : Int32)), .val (.int (2 : Int32)), .val (.int ((ff (iv.toInt.toNat + 2)) &&& (255 : Int32)))]) rfl ?_
                            show Steps p.tables e below (s₁.setTop (mkF m 287 #[.val (.ref ch), .val (.int xf), .val (.int xt), .val (.int (-1 : Int32)), .val (.int iv), .val (.int ((ff iv.toInt.toNat) &&& (255 : Int32))), .val (.int (3 : Int32)), .val (.int lo), .val (.int hi), .val (.int (0 : Int32)), .val (.int (2 : Int32)), .val (.int ((ff (iv.toInt.toNat + 2)) &&& (255 : Int32)))] [])) tgt
                            refine XS.iinc X0.here hx rfl (hb hby d1_287) rfl (l' := #[.val (.ref ch), .val (.int xf), .val (.int xt), .val (.int (-1 : Int32)), .val (.int iv), .val (.int ((ff iv.toInt.toNat) &&& (255 : Int32))), .val (.int (3 : Int32)), .val (.int lo), .val (.int hi), .val (.int (0 : Int32)), .val (.int ((2 : Int32) + (1 : Int32))), .val (.int ((ff (iv.toInt.toNat + 2)) &&& (255 : Int32)))]) rfl ?_
                            exact k
                          rw [show ((2 : Int32) + (1 : Int32)) = (3 : Int32) from by decide]
                          refine own_st (V := s₁.setTop (mkF m 5 #[.val (.ref ch), .val (.int xf), .val (.int xt), .val (.int iv), .val (.int iv), .val (.int ((ff iv.toInt.toNat) &&& (255 : Int32))), .val (.int (3 : Int32)), .val (.int lo), .val (.int hi), .val (.int (0 : Int32)), .val (.int (3 : Int32)), .val (.int ((ff (iv.toInt.toNat + 2)) &&& (255 : Int32)))] [])) (fun tgt k => ?_) ?_
                          · show Steps p.tables e below (s₁.setTop (mkF m 290 #[.val (.ref ch), .val (.int xf), .val (.int xt), .val (.int (-1 : Int32)), .val (.int iv), .val (.int ((ff iv.toInt.toNat) &&& (255 : Int32))), .val (.int (3 : Int32)), .val (.int lo), .val (.int hi), .val (.int (0 : Int32)), .val (.int (3 : Int32)), .val (.int ((ff (iv.toInt.toNat + 2)) &&& (255 : Int32)))] [])) tgt
                            refine XS.goto X0.here hx rfl (pc0 := 290) (pc' := 211) rfl (hb hby d1_290) (by decide) (by decide) ?_
                            show Steps p.tables e below (s₁.setTop (mkF m 211 #[.val (.ref ch), .val (.int xf), .val (.int xt), .val (.int (-1 : Int32)), .val (.int iv), .val (.int ((ff iv.toInt.toNat) &&& (255 : Int32))), .val (.int (3 : Int32)), .val (.int lo), .val (.int hi), .val (.int (0 : Int32)), .val (.int (3 : Int32)), .val (.int ((ff (iv.toInt.toNat + 2)) &&& (255 : Int32)))] [])) tgt
                            refine XS.iload X0.here hx rfl (hb hby d1_211) rfl ?_
                            show Steps p.tables e below (s₁.setTop (mkF m 213 #[.val (.ref ch), .val (.int xf), .val (.int xt), .val (.int (-1 : Int32)), .val (.int iv), .val (.int ((ff iv.toInt.toNat) &&& (255 : Int32))), .val (.int (3 : Int32)), .val (.int lo), .val (.int hi), .val (.int (0 : Int32)), .val (.int (3 : Int32)), .val (.int ((ff (iv.toInt.toNat + 2)) &&& (255 : Int32)))] [(.int (0 : Int32))])) tgt
                            refine XS.ifYes X0.here hx rfl (pc0 := 213) (pc' := 293) rfl (hb hby d1_213) rfl ((if0 _ _).trans (teq (by decide : (0 : Int32) = (0 : Int32))).1) (by decide) (by decide) ?_
                            show Steps p.tables e below (s₁.setTop (mkF m 293 #[.val (.ref ch), .val (.int xf), .val (.int xt), .val (.int (-1 : Int32)), .val (.int iv), .val (.int ((ff iv.toInt.toNat) &&& (255 : Int32))), .val (.int (3 : Int32)), .val (.int lo), .val (.int hi), .val (.int (0 : Int32)), .val (.int (3 : Int32)), .val (.int ((ff (iv.toInt.toNat + 2)) &&& (255 : Int32)))] [])) tgt
                            refine XS.iload X0.here hx rfl (hb hby d1_293) rfl ?_
                            show Steps p.tables e below (s₁.setTop (mkF m 295 #[.val (.ref ch), .val (.int xf), .val (.int xt), .val (.int (-1 : Int32)), .val (.int iv), .val (.int ((ff iv.toInt.toNat) &&& (255 : Int32))), .val (.int (3 : Int32)), .val (.int lo), .val (.int hi), .val (.int (0 : Int32)), .val (.int (3 : Int32)), .val (.int ((ff (iv.toInt.toNat + 2)) &&& (255 : Int32)))] [(.int (0 : Int32))])) tgt
                            refine XS.ifYes X0.here hx rfl (pc0 := 295) (pc' := 308) rfl (hb hby d1_295) rfl ((if0 _ _).trans (teq (by decide : (0 : Int32) = (0 : Int32))).1) (by decide) (by decide) ?_
                            show Steps p.tables e below (s₁.setTop (mkF m 308 #[.val (.ref ch), .val (.int xf), .val (.int xt), .val (.int (-1 : Int32)), .val (.int iv), .val (.int ((ff iv.toInt.toNat) &&& (255 : Int32))), .val (.int (3 : Int32)), .val (.int lo), .val (.int hi), .val (.int (0 : Int32)), .val (.int (3 : Int32)), .val (.int ((ff (iv.toInt.toNat + 2)) &&& (255 : Int32)))] [])) tgt
                            refine XS.iload X0.here hx rfl (hb hby d1_308) rfl ?_
                            show Steps p.tables e below (s₁.setTop (mkF m 310 #[.val (.ref ch), .val (.int xf), .val (.int xt), .val (.int (-1 : Int32)), .val (.int iv), .val (.int ((ff iv.toInt.toNat) &&& (255 : Int32))), .val (.int (3 : Int32)), .val (.int lo), .val (.int hi), .val (.int (0 : Int32)), .val (.int (3 : Int32)), .val (.int ((ff (iv.toInt.toNat + 2)) &&& (255 : Int32)))] [(.int iv)])) tgt
                            refine XS.istoreN X0.here hx rfl (hb hby d1_310) rfl (l' := #[.val (.ref ch), .val (.int xf), .val (.int xt), .val (.int iv), .val (.int iv), .val (.int ((ff iv.toInt.toNat) &&& (255 : Int32))), .val (.int (3 : Int32)), .val (.int lo), .val (.int hi), .val (.int (0 : Int32)), .val (.int (3 : Int32)), .val (.int ((ff (iv.toInt.toNat + 2)) &&& (255 : Int32)))]) rfl ?_
                            show Steps p.tables e below (s₁.setTop (mkF m 311 #[.val (.ref ch), .val (.int xf), .val (.int xt), .val (.int iv), .val (.int iv), .val (.int ((ff iv.toInt.toNat) &&& (255 : Int32))), .val (.int (3 : Int32)), .val (.int lo), .val (.int hi), .val (.int (0 : Int32)), .val (.int (3 : Int32)), .val (.int ((ff (iv.toInt.toNat + 2)) &&& (255 : Int32)))] [])) tgt
                            refine XS.goto X0.here hx rfl (pc0 := 311) (pc' := 5) rfl (hb hby d1_311) (by decide) (by decide) ?_
                            exact k
                          refine own_st (V := s₁.setTop (mkF m 315 #[.val (.ref ch), .val (.int xf), .val (.int xt), .val (.int iv), .val (.int iv), .val (.int ((ff iv.toInt.toNat) &&& (255 : Int32))), .val (.int (3 : Int32)), .val (.int lo), .val (.int hi), .val (.int (0 : Int32)), .val (.int (3 : Int32)), .val (.int ((ff (iv.toInt.toNat + 2)) &&& (255 : Int32)))] [(.int iv)])) (fun tgt k => ?_) ?_
                          · show Steps p.tables e below (s₁.setTop (mkF m 5 #[.val (.ref ch), .val (.int xf), .val (.int xt), .val (.int iv), .val (.int iv), .val (.int ((ff iv.toInt.toNat) &&& (255 : Int32))), .val (.int (3 : Int32)), .val (.int lo), .val (.int hi), .val (.int (0 : Int32)), .val (.int (3 : Int32)), .val (.int ((ff (iv.toInt.toNat + 2)) &&& (255 : Int32)))] [])) tgt
                            refine XS.iloadN X0.here hx rfl (hb hby d1_5) rfl ?_
                            show Steps p.tables e below (s₁.setTop (mkF m 6 #[.val (.ref ch), .val (.int xf), .val (.int xt), .val (.int iv), .val (.int iv), .val (.int ((ff iv.toInt.toNat) &&& (255 : Int32))), .val (.int (3 : Int32)), .val (.int lo), .val (.int hi), .val (.int (0 : Int32)), .val (.int (3 : Int32)), .val (.int ((ff (iv.toInt.toNat + 2)) &&& (255 : Int32)))] [(.int iv)])) tgt
                            refine XS.ifYes X0.here hx rfl (pc0 := 6) (pc' := 314) rfl (hb hby d1_6) rfl ((if0 _ _).trans (flt (by rw [own_ilt, show (0 : Int32).toInt = 0 from rfl]; omega)).2.1) (by decide) (by decide) ?_
                            show Steps p.tables e below (s₁.setTop (mkF m 314 #[.val (.ref ch), .val (.int xf), .val (.int xt), .val (.int iv), .val (.int iv), .val (.int ((ff iv.toInt.toNat) &&& (255 : Int32))), .val (.int (3 : Int32)), .val (.int lo), .val (.int hi), .val (.int (0 : Int32)), .val (.int (3 : Int32)), .val (.int ((ff (iv.toInt.toNat + 2)) &&& (255 : Int32)))] [])) tgt
                            refine XS.iloadN X0.here hx rfl (hb hby d1_314) rfl ?_
                            exact k
                          refine own_retI X0 hx hlk Bd.returns (hb hby d1_315) ?_ (by decide) (by decide)
                          show Q1 Z ch xf xt ff fu h0 n0 (some (.int iv)) s₁.heap _
                          rw [e0]
                          refine ⟨?_, N0, rfl⟩
                          exact congrArg (fun q => some (Value.int q)) (by rw [← hE, own_bad hc12 (by unfold own_S own_s4; rw [if_neg hc43, if_neg hc57, if_pos hc65, if_neg hc87, ← hlo, ← hhi, if_neg hc198, if_neg hc246, if_neg hc253, if_neg hc269, if_pos hc277])])
                        · skip
                          refine own_st (V := s₁.setTop (mkF m 290 #[.val (.ref ch), .val (.int xf), .val (.int xt), .val (.int (-1 : Int32)), .val (.int iv), .val (.int ((ff iv.toInt.toNat) &&& (255 : Int32))), .val (.int (3 : Int32)), .val (.int lo), .val (.int hi), .val (.int (1 : Int32)), .val (.int ((2 : Int32) + (1 : Int32))), .val (.int ((ff (iv.toInt.toNat + 2)) &&& (255 : Int32)))] [])) (fun tgt k => ?_) ?_
                          · show Steps p.tables e below (s₁.setTop (mkF m 277 #[.val (.ref ch), .val (.int xf), .val (.int xt), .val (.int (-1 : Int32)), .val (.int iv), .val (.int ((ff iv.toInt.toNat) &&& (255 : Int32))), .val (.int (3 : Int32)), .val (.int lo), .val (.int hi), .val (.int (1 : Int32)), .val (.int (2 : Int32)), .val (.int ((ff (iv.toInt.toNat + 2)) &&& (255 : Int32)))] [(.int (191 : Int32)), (.int ((ff (iv.toInt.toNat + 2)) &&& (255 : Int32)))])) tgt
                            refine XS.icmpNo X0.here hx rfl (hb hby d1_277) rfl (flt hc277).2.2.1 ?_
                            show Steps p.tables e below (s₁.setTop (mkF m 280 #[.val (.ref ch), .val (.int xf), .val (.int xt), .val (.int (-1 : Int32)), .val (.int iv), .val (.int ((ff iv.toInt.toNat) &&& (255 : Int32))), .val (.int (3 : Int32)), .val (.int lo), .val (.int hi), .val (.int (1 : Int32)), .val (.int (2 : Int32)), .val (.int ((ff (iv.toInt.toNat + 2)) &&& (255 : Int32)))] [])) tgt
                            refine XS.iconst X0.here hx rfl (hb hby d1_280) ?_
                            show Steps p.tables e below (s₁.setTop (mkF m 281 #[.val (.ref ch), .val (.int xf), .val (.int xt), .val (.int (-1 : Int32)), .val (.int iv), .val (.int ((ff iv.toInt.toNat) &&& (255 : Int32))), .val (.int (3 : Int32)), .val (.int lo), .val (.int hi), .val (.int (1 : Int32)), .val (.int (2 : Int32)), .val (.int ((ff (iv.toInt.toNat + 2)) &&& (255 : Int32)))] [(.int (1 : Int32))])) tgt
                            refine XS.goto X0.here hx rfl (pc0 := 281) (pc' := 285) rfl (hb hby d1_281) (by decide) (by decide) ?_
                            show Steps p.tables e below (s₁.setTop (mkF m 285 #[.val (.ref ch), .val (.int xf), .val (.int xt), .val (.int (-1 : Int32)), .val (.int iv), .val (.int ((ff iv.toInt.toNat) &&& (255 : Int32))), .val (.int (3 : Int32)), .val (.int lo), .val (.int hi), .val (.int (1 : Int32)), .val (.int (2 : Int32)), .val (.int ((ff (iv.toInt.toNat + 2)) &&& (255 : Int32)))] [(.int (1 : Int32))])) tgt
                            refine XS.istore X0.here hx rfl (hb hby d1_285) rfl (l' := #[.val (.ref ch), .val (.int xf), .val (.int xt), .val (.int (-1 : Int32)), .val (.int iv), .val (.int ((ff iv.toInt.toNat) &&& (255 : Int32))), .val (.int (3 : Int32)), .val (.int lo), .val (.int hi), .val (.int (1 : Int32)), .val (.int (2 : Int32)), .val (.int ((ff (iv.toInt.toNat + 2)) &&& (255 : Int32)))]) rfl ?_
                            show Steps p.tables e below (s₁.setTop (mkF m 287 #[.val (.ref ch), .val (.int xf), .val (.int xt), .val (.int (-1 : Int32)), .val (.int iv), .val (.int ((ff iv.toInt.toNat) &&& (255 : Int32))), .val (.int (3 : Int32)), .val (.int lo), .val (.int hi), .val (.int (1 : Int32)), .val (.int (2 : Int32)), .val (.int ((ff (iv.toInt.toNat + 2)) &&& (255 : Int32)))] [])) tgt
                            refine XS.iinc X0.here hx rfl (hb hby d1_287) rfl (l' := #[.val (.ref ch), .val (.int xf), .val (.int xt), .val (.int (-1 : Int32)), .val (.int iv), .val (.int ((ff iv.toInt.toNat) &&& (255 : Int32))), .val (.int (3 : Int32)), .val (.int lo), .val (.int hi), .val (.int (1 : Int32)), .val (.int ((2 : Int32) + (1 : Int32))), .val (.int ((ff (iv.toInt.toNat + 2)) &&& (255 : Int32)))]) rfl ?_
                            exact k
                          rw [show ((2 : Int32) + (1 : Int32)) = (3 : Int32) from by decide]
                          refine own_st (V := s₁.setTop (mkF m 5 #[.val (.ref ch), .val (.int xf), .val (.int xt), .val (.int (-1 : Int32)), .val (.int (iv + (3 : Int32))), .val (.int ((ff iv.toInt.toNat) &&& (255 : Int32))), .val (.int (3 : Int32)), .val (.int lo), .val (.int hi), .val (.int (1 : Int32)), .val (.int (3 : Int32)), .val (.int ((ff (iv.toInt.toNat + 2)) &&& (255 : Int32)))] [])) (fun tgt k => ?_) ?_
                          · show Steps p.tables e below (s₁.setTop (mkF m 290 #[.val (.ref ch), .val (.int xf), .val (.int xt), .val (.int (-1 : Int32)), .val (.int iv), .val (.int ((ff iv.toInt.toNat) &&& (255 : Int32))), .val (.int (3 : Int32)), .val (.int lo), .val (.int hi), .val (.int (1 : Int32)), .val (.int (3 : Int32)), .val (.int ((ff (iv.toInt.toNat + 2)) &&& (255 : Int32)))] [])) tgt
                            refine XS.goto X0.here hx rfl (pc0 := 290) (pc' := 211) rfl (hb hby d1_290) (by decide) (by decide) ?_
                            show Steps p.tables e below (s₁.setTop (mkF m 211 #[.val (.ref ch), .val (.int xf), .val (.int xt), .val (.int (-1 : Int32)), .val (.int iv), .val (.int ((ff iv.toInt.toNat) &&& (255 : Int32))), .val (.int (3 : Int32)), .val (.int lo), .val (.int hi), .val (.int (1 : Int32)), .val (.int (3 : Int32)), .val (.int ((ff (iv.toInt.toNat + 2)) &&& (255 : Int32)))] [])) tgt
                            refine XS.iload X0.here hx rfl (hb hby d1_211) rfl ?_
                            show Steps p.tables e below (s₁.setTop (mkF m 213 #[.val (.ref ch), .val (.int xf), .val (.int xt), .val (.int (-1 : Int32)), .val (.int iv), .val (.int ((ff iv.toInt.toNat) &&& (255 : Int32))), .val (.int (3 : Int32)), .val (.int lo), .val (.int hi), .val (.int (1 : Int32)), .val (.int (3 : Int32)), .val (.int ((ff (iv.toInt.toNat + 2)) &&& (255 : Int32)))] [(.int (1 : Int32))])) tgt
                            refine XS.ifNo X0.here hx rfl (hb hby d1_213) rfl ((if0 _ _).trans (feq (by decide : ¬ ((1 : Int32) = (0 : Int32)))).1) ?_
                            show Steps p.tables e below (s₁.setTop (mkF m 216 #[.val (.ref ch), .val (.int xf), .val (.int xt), .val (.int (-1 : Int32)), .val (.int iv), .val (.int ((ff iv.toInt.toNat) &&& (255 : Int32))), .val (.int (3 : Int32)), .val (.int lo), .val (.int hi), .val (.int (1 : Int32)), .val (.int (3 : Int32)), .val (.int ((ff (iv.toInt.toNat + 2)) &&& (255 : Int32)))] [])) tgt
                            refine XS.iload X0.here hx rfl (hb hby d1_216) rfl ?_
                            show Steps p.tables e below (s₁.setTop (mkF m 218 #[.val (.ref ch), .val (.int xf), .val (.int xt), .val (.int (-1 : Int32)), .val (.int iv), .val (.int ((ff iv.toInt.toNat) &&& (255 : Int32))), .val (.int (3 : Int32)), .val (.int lo), .val (.int hi), .val (.int (1 : Int32)), .val (.int (3 : Int32)), .val (.int ((ff (iv.toInt.toNat + 2)) &&& (255 : Int32)))] [(.int (3 : Int32))])) tgt
                            refine XS.iload X0.here hx rfl (hb hby d1_218) rfl ?_
                            show Steps p.tables e below (s₁.setTop (mkF m 220 #[.val (.ref ch), .val (.int xf), .val (.int xt), .val (.int (-1 : Int32)), .val (.int iv), .val (.int ((ff iv.toInt.toNat) &&& (255 : Int32))), .val (.int (3 : Int32)), .val (.int lo), .val (.int hi), .val (.int (1 : Int32)), .val (.int (3 : Int32)), .val (.int ((ff (iv.toInt.toNat + 2)) &&& (255 : Int32)))] [(.int (3 : Int32)), (.int (3 : Int32))])) tgt
                            refine XS.icmpYes X0.here hx rfl (pc0 := 220) (pc' := 293) rfl (hb hby d1_220) rfl (flt (by decide : ¬ ((3 : Int32) < (3 : Int32)))).2.1 (by decide) (by decide) ?_
                            show Steps p.tables e below (s₁.setTop (mkF m 293 #[.val (.ref ch), .val (.int xf), .val (.int xt), .val (.int (-1 : Int32)), .val (.int iv), .val (.int ((ff iv.toInt.toNat) &&& (255 : Int32))), .val (.int (3 : Int32)), .val (.int lo), .val (.int hi), .val (.int (1 : Int32)), .val (.int (3 : Int32)), .val (.int ((ff (iv.toInt.toNat + 2)) &&& (255 : Int32)))] [])) tgt
                            refine XS.iload X0.here hx rfl (hb hby d1_293) rfl ?_
                            show Steps p.tables e below (s₁.setTop (mkF m 295 #[.val (.ref ch), .val (.int xf), .val (.int xt), .val (.int (-1 : Int32)), .val (.int iv), .val (.int ((ff iv.toInt.toNat) &&& (255 : Int32))), .val (.int (3 : Int32)), .val (.int lo), .val (.int hi), .val (.int (1 : Int32)), .val (.int (3 : Int32)), .val (.int ((ff (iv.toInt.toNat + 2)) &&& (255 : Int32)))] [(.int (1 : Int32))])) tgt
                            refine XS.ifNo X0.here hx rfl (hb hby d1_295) rfl ((if0 _ _).trans (feq (by decide : ¬ ((1 : Int32) = (0 : Int32)))).1) ?_
                            show Steps p.tables e below (s₁.setTop (mkF m 298 #[.val (.ref ch), .val (.int xf), .val (.int xt), .val (.int (-1 : Int32)), .val (.int iv), .val (.int ((ff iv.toInt.toNat) &&& (255 : Int32))), .val (.int (3 : Int32)), .val (.int lo), .val (.int hi), .val (.int (1 : Int32)), .val (.int (3 : Int32)), .val (.int ((ff (iv.toInt.toNat + 2)) &&& (255 : Int32)))] [])) tgt
                            refine XS.iload X0.here hx rfl (hb hby d1_298) rfl ?_
                            show Steps p.tables e below (s₁.setTop (mkF m 300 #[.val (.ref ch), .val (.int xf), .val (.int xt), .val (.int (-1 : Int32)), .val (.int iv), .val (.int ((ff iv.toInt.toNat) &&& (255 : Int32))), .val (.int (3 : Int32)), .val (.int lo), .val (.int hi), .val (.int (1 : Int32)), .val (.int (3 : Int32)), .val (.int ((ff (iv.toInt.toNat + 2)) &&& (255 : Int32)))] [(.int iv)])) tgt
                            refine XS.iload X0.here hx rfl (hb hby d1_300) rfl ?_
                            show Steps p.tables e below (s₁.setTop (mkF m 302 #[.val (.ref ch), .val (.int xf), .val (.int xt), .val (.int (-1 : Int32)), .val (.int iv), .val (.int ((ff iv.toInt.toNat) &&& (255 : Int32))), .val (.int (3 : Int32)), .val (.int lo), .val (.int hi), .val (.int (1 : Int32)), .val (.int (3 : Int32)), .val (.int ((ff (iv.toInt.toNat + 2)) &&& (255 : Int32)))] [(.int (3 : Int32)), (.int iv)])) tgt
                            refine XS.iadd X0.here hx rfl (hb hby d1_302) rfl ?_
                            show Steps p.tables e below (s₁.setTop (mkF m 303 #[.val (.ref ch), .val (.int xf), .val (.int xt), .val (.int (-1 : Int32)), .val (.int iv), .val (.int ((ff iv.toInt.toNat) &&& (255 : Int32))), .val (.int (3 : Int32)), .val (.int lo), .val (.int hi), .val (.int (1 : Int32)), .val (.int (3 : Int32)), .val (.int ((ff (iv.toInt.toNat + 2)) &&& (255 : Int32)))] [(.int (iv + (3 : Int32)))])) tgt
                            refine XS.istore X0.here hx rfl (hb hby d1_303) rfl (l' := #[.val (.ref ch), .val (.int xf), .val (.int xt), .val (.int (-1 : Int32)), .val (.int (iv + (3 : Int32))), .val (.int ((ff iv.toInt.toNat) &&& (255 : Int32))), .val (.int (3 : Int32)), .val (.int lo), .val (.int hi), .val (.int (1 : Int32)), .val (.int (3 : Int32)), .val (.int ((ff (iv.toInt.toNat + 2)) &&& (255 : Int32)))]) rfl ?_
                            show Steps p.tables e below (s₁.setTop (mkF m 305 #[.val (.ref ch), .val (.int xf), .val (.int xt), .val (.int (-1 : Int32)), .val (.int (iv + (3 : Int32))), .val (.int ((ff iv.toInt.toNat) &&& (255 : Int32))), .val (.int (3 : Int32)), .val (.int lo), .val (.int hi), .val (.int (1 : Int32)), .val (.int (3 : Int32)), .val (.int ((ff (iv.toInt.toNat + 2)) &&& (255 : Int32)))] [])) tgt
                            refine XS.goto X0.here hx rfl (pc0 := 305) (pc' := 311) rfl (hb hby d1_305) (by decide) (by decide) ?_
                            show Steps p.tables e below (s₁.setTop (mkF m 311 #[.val (.ref ch), .val (.int xf), .val (.int xt), .val (.int (-1 : Int32)), .val (.int (iv + (3 : Int32))), .val (.int ((ff iv.toInt.toNat) &&& (255 : Int32))), .val (.int (3 : Int32)), .val (.int lo), .val (.int hi), .val (.int (1 : Int32)), .val (.int (3 : Int32)), .val (.int ((ff (iv.toInt.toNat + 2)) &&& (255 : Int32)))] [])) tgt
                            refine XS.goto X0.here hx rfl (pc0 := 311) (pc' := 5) rfl (hb hby d1_311) (by decide) (by decide) ?_
                            exact k
                          have hS : own_S ff iv xt = (3 : Int32) := by unfold own_S own_s4; rw [if_neg hc43, if_neg hc57, if_pos hc65, if_neg hc87, ← hlo, ← hhi, if_neg hc198, if_neg hc246, if_neg hc253, if_neg hc269, if_neg hc277]
                          exact ih (iv + (3 : Int32)) _ _ _ _ _ _ _ (One.val rfl) (One.val rfl) (One.val rfl) (One.val rfl) (One.val rfl) (One.val rfl) (One.val rfl) (by rw [a3]; omega) (by rw [a3]; have := hfit; omega) (by rw [a3]; omega) ((own_good hc12 hS (by decide)).symm.trans hE)
            · skip
              refine own_st (V := s₁.setTop (mkF m 198 #[.val (.ref ch), .val (.int xf), .val (.int xt), .val (.int (-1 : Int32)), .val (.int iv), .val (.int ((ff iv.toInt.toNat) &&& (255 : Int32))), .val (.int (2 : Int32)), .val (.int (128 : Int32)), .val (.int (191 : Int32)), s9, s10, s11] [(.int xt), (.int (iv + (2 : Int32)))])) (fun tgt k => ?_) ?_
              · show Steps p.tables e below (s₁.setTop (mkF m 65 #[.val (.ref ch), .val (.int xf), .val (.int xt), .val (.int (-1 : Int32)), .val (.int iv), .val (.int ((ff iv.toInt.toNat) &&& (255 : Int32))), .val (.int (0 : Int32)), .val (.int (128 : Int32)), .val (.int (191 : Int32)), s9, s10, s11] [(.int (223 : Int32)), (.int ((ff iv.toInt.toNat) &&& (255 : Int32)))])) tgt
                refine XS.icmpNo X0.here hx rfl (hb hby d1_65) rfl (flt hc65).2.2.1 ?_
                show Steps p.tables e below (s₁.setTop (mkF m 68 #[.val (.ref ch), .val (.int xf), .val (.int xt), .val (.int (-1 : Int32)), .val (.int iv), .val (.int ((ff iv.toInt.toNat) &&& (255 : Int32))), .val (.int (0 : Int32)), .val (.int (128 : Int32)), .val (.int (191 : Int32)), s9, s10, s11] [])) tgt
                refine XS.iconst X0.here hx rfl (hb hby d1_68) ?_
                show Steps p.tables e below (s₁.setTop (mkF m 69 #[.val (.ref ch), .val (.int xf), .val (.int xt), .val (.int (-1 : Int32)), .val (.int iv), .val (.int ((ff iv.toInt.toNat) &&& (255 : Int32))), .val (.int (0 : Int32)), .val (.int (128 : Int32)), .val (.int (191 : Int32)), s9, s10, s11] [(.int (2 : Int32))])) tgt
                refine XS.istore X0.here hx rfl (hb hby d1_69) rfl (l' := #[.val (.ref ch), .val (.int xf), .val (.int xt), .val (.int (-1 : Int32)), .val (.int iv), .val (.int ((ff iv.toInt.toNat) &&& (255 : Int32))), .val (.int (2 : Int32)), .val (.int (128 : Int32)), .val (.int (191 : Int32)), s9, s10, s11]) rfl ?_
                show Steps p.tables e below (s₁.setTop (mkF m 71 #[.val (.ref ch), .val (.int xf), .val (.int xt), .val (.int (-1 : Int32)), .val (.int iv), .val (.int ((ff iv.toInt.toNat) &&& (255 : Int32))), .val (.int (2 : Int32)), .val (.int (128 : Int32)), .val (.int (191 : Int32)), s9, s10, s11] [])) tgt
                refine XS.goto X0.here hx rfl (pc0 := 71) (pc' := 187) rfl (hb hby d1_71) (by decide) (by decide) ?_
                show Steps p.tables e below (s₁.setTop (mkF m 187 #[.val (.ref ch), .val (.int xf), .val (.int xt), .val (.int (-1 : Int32)), .val (.int iv), .val (.int ((ff iv.toInt.toNat) &&& (255 : Int32))), .val (.int (2 : Int32)), .val (.int (128 : Int32)), .val (.int (191 : Int32)), s9, s10, s11] [])) tgt
                refine XS.iload X0.here hx rfl (hb hby d1_187) rfl ?_
                show Steps p.tables e below (s₁.setTop (mkF m 189 #[.val (.ref ch), .val (.int xf), .val (.int xt), .val (.int (-1 : Int32)), .val (.int iv), .val (.int ((ff iv.toInt.toNat) &&& (255 : Int32))), .val (.int (2 : Int32)), .val (.int (128 : Int32)), .val (.int (191 : Int32)), s9, s10, s11] [(.int (2 : Int32))])) tgt
                refine XS.ifNo X0.here hx rfl (hb hby d1_189) rfl ((if0 _ _).trans (tlt (by decide : (0 : Int32) < (2 : Int32))).2.2.2) ?_
                show Steps p.tables e below (s₁.setTop (mkF m 192 #[.val (.ref ch), .val (.int xf), .val (.int xt), .val (.int (-1 : Int32)), .val (.int iv), .val (.int ((ff iv.toInt.toNat) &&& (255 : Int32))), .val (.int (2 : Int32)), .val (.int (128 : Int32)), .val (.int (191 : Int32)), s9, s10, s11] [])) tgt
                refine XS.iload X0.here hx rfl (hb hby d1_192) rfl ?_
                show Steps p.tables e below (s₁.setTop (mkF m 194 #[.val (.ref ch), .val (.int xf), .val (.int xt), .val (.int (-1 : Int32)), .val (.int iv), .val (.int ((ff iv.toInt.toNat) &&& (255 : Int32))), .val (.int (2 : Int32)), .val (.int (128 : Int32)), .val (.int (191 : Int32)), s9, s10, s11] [(.int iv)])) tgt
                refine XS.iload X0.here hx rfl (hb hby d1_194) rfl ?_
                show Steps p.tables e below (s₁.setTop (mkF m 196 #[.val (.ref ch), .val (.int xf), .val (.int xt), .val (.int (-1 : Int32)), .val (.int iv), .val (.int ((ff iv.toInt.toNat) &&& (255 : Int32))), .val (.int (2 : Int32)), .val (.int (128 : Int32)), .val (.int (191 : Int32)), s9, s10, s11] [(.int (2 : Int32)), (.int iv)])) tgt
                refine XS.iadd X0.here hx rfl (hb hby d1_196) rfl ?_
                show Steps p.tables e below (s₁.setTop (mkF m 197 #[.val (.ref ch), .val (.int xf), .val (.int xt), .val (.int (-1 : Int32)), .val (.int iv), .val (.int ((ff iv.toInt.toNat) &&& (255 : Int32))), .val (.int (2 : Int32)), .val (.int (128 : Int32)), .val (.int (191 : Int32)), s9, s10, s11] [(.int (iv + (2 : Int32)))])) tgt
                refine XS.iloadN X0.here hx rfl (hb hby d1_197) rfl ?_
                exact k
              by_cases hc198 : xt < (iv + (2 : Int32))
              · skip
                refine own_st (V := s₁.setTop (mkF m 5 #[.val (.ref ch), .val (.int xf), .val (.int xt), .val (.int iv), .val (.int iv), .val (.int ((ff iv.toInt.toNat) &&& (255 : Int32))), .val (.int (2 : Int32)), .val (.int (128 : Int32)), .val (.int (191 : Int32)), .val (.int (0 : Int32)), .val (.int (1 : Int32)), s11] [])) (fun tgt k => ?_) ?_
                · show Steps p.tables e below (s₁.setTop (mkF m 198 #[.val (.ref ch), .val (.int xf), .val (.int xt), .val (.int (-1 : Int32)), .val (.int iv), .val (.int ((ff iv.toInt.toNat) &&& (255 : Int32))), .val (.int (2 : Int32)), .val (.int (128 : Int32)), .val (.int (191 : Int32)), s9, s10, s11] [(.int xt), (.int (iv + (2 : Int32)))])) tgt
                  refine XS.icmpYes X0.here hx rfl (pc0 := 198) (pc' := 205) rfl (hb hby d1_198) rfl (tlt hc198).2.2.1 (by decide) (by decide) ?_
                  show Steps p.tables e below (s₁.setTop (mkF m 205 #[.val (.ref ch), .val (.int xf), .val (.int xt), .val (.int (-1 : Int32)), .val (.int iv), .val (.int ((ff iv.toInt.toNat) &&& (255 : Int32))), .val (.int (2 : Int32)), .val (.int (128 : Int32)), .val (.int (191 : Int32)), s9, s10, s11] [])) tgt
                  refine XS.iconst X0.here hx rfl (hb hby d1_205) ?_
                  show Steps p.tables e below (s₁.setTop (mkF m 206 #[.val (.ref ch), .val (.int xf), .val (.int xt), .val (.int (-1 : Int32)), .val (.int iv), .val (.int ((ff iv.toInt.toNat) &&& (255 : Int32))), .val (.int (2 : Int32)), .val (.int (128 : Int32)), .val (.int (191 : Int32)), s9, s10, s11] [(.int (0 : Int32))])) tgt
                  refine XS.istoreS X0.here hx rfl (hb hby d1_206) rfl rfl o9 ?_
                  show Steps p.tables e below (s₁.setTop (mkF m 208 #[.val (.ref ch), .val (.int xf), .val (.int xt), .val (.int (-1 : Int32)), .val (.int iv), .val (.int ((ff iv.toInt.toNat) &&& (255 : Int32))), .val (.int (2 : Int32)), .val (.int (128 : Int32)), .val (.int (191 : Int32)), .val (.int (0 : Int32)), s10, s11] [])) tgt
                  refine XS.iconst X0.here hx rfl (hb hby d1_208) ?_
                  show Steps p.tables e below (s₁.setTop (mkF m 209 #[.val (.ref ch), .val (.int xf), .val (.int xt), .val (.int (-1 : Int32)), .val (.int iv), .val (.int ((ff iv.toInt.toNat) &&& (255 : Int32))), .val (.int (2 : Int32)), .val (.int (128 : Int32)), .val (.int (191 : Int32)), .val (.int (0 : Int32)), s10, s11] [(.int (1 : Int32))])) tgt
                  refine XS.istoreS X0.here hx rfl (hb hby d1_209) rfl rfl o10 ?_
                  show Steps p.tables e below (s₁.setTop (mkF m 211 #[.val (.ref ch), .val (.int xf), .val (.int xt), .val (.int (-1 : Int32)), .val (.int iv), .val (.int ((ff iv.toInt.toNat) &&& (255 : Int32))), .val (.int (2 : Int32)), .val (.int (128 : Int32)), .val (.int (191 : Int32)), .val (.int (0 : Int32)), .val (.int (1 : Int32)), s11] [])) tgt
                  refine XS.iload X0.here hx rfl (hb hby d1_211) rfl ?_
                  show Steps p.tables e below (s₁.setTop (mkF m 213 #[.val (.ref ch), .val (.int xf), .val (.int xt), .val (.int (-1 : Int32)), .val (.int iv), .val (.int ((ff iv.toInt.toNat) &&& (255 : Int32))), .val (.int (2 : Int32)), .val (.int (128 : Int32)), .val (.int (191 : Int32)), .val (.int (0 : Int32)), .val (.int (1 : Int32)), s11] [(.int (0 : Int32))])) tgt
                  refine XS.ifYes X0.here hx rfl (pc0 := 213) (pc' := 293) rfl (hb hby d1_213) rfl ((if0 _ _).trans (teq (by decide : (0 : Int32) = (0 : Int32))).1) (by decide) (by decide) ?_
                  show Steps p.tables e below (s₁.setTop (mkF m 293 #[.val (.ref ch), .val (.int xf), .val (.int xt), .val (.int (-1 : Int32)), .val (.int iv), .val (.int ((ff iv.toInt.toNat) &&& (255 : Int32))), .val (.int (2 : Int32)), .val (.int (128 : Int32)), .val (.int (191 : Int32)), .val (.int (0 : Int32)), .val (.int (1 : Int32)), s11] [])) tgt
                  refine XS.iload X0.here hx rfl (hb hby d1_293) rfl ?_
                  show Steps p.tables e below (s₁.setTop (mkF m 295 #[.val (.ref ch), .val (.int xf), .val (.int xt), .val (.int (-1 : Int32)), .val (.int iv), .val (.int ((ff iv.toInt.toNat) &&& (255 : Int32))), .val (.int (2 : Int32)), .val (.int (128 : Int32)), .val (.int (191 : Int32)), .val (.int (0 : Int32)), .val (.int (1 : Int32)), s11] [(.int (0 : Int32))])) tgt
                  refine XS.ifYes X0.here hx rfl (pc0 := 295) (pc' := 308) rfl (hb hby d1_295) rfl ((if0 _ _).trans (teq (by decide : (0 : Int32) = (0 : Int32))).1) (by decide) (by decide) ?_
                  show Steps p.tables e below (s₁.setTop (mkF m 308 #[.val (.ref ch), .val (.int xf), .val (.int xt), .val (.int (-1 : Int32)), .val (.int iv), .val (.int ((ff iv.toInt.toNat) &&& (255 : Int32))), .val (.int (2 : Int32)), .val (.int (128 : Int32)), .val (.int (191 : Int32)), .val (.int (0 : Int32)), .val (.int (1 : Int32)), s11] [])) tgt
                  refine XS.iload X0.here hx rfl (hb hby d1_308) rfl ?_
                  show Steps p.tables e below (s₁.setTop (mkF m 310 #[.val (.ref ch), .val (.int xf), .val (.int xt), .val (.int (-1 : Int32)), .val (.int iv), .val (.int ((ff iv.toInt.toNat) &&& (255 : Int32))), .val (.int (2 : Int32)), .val (.int (128 : Int32)), .val (.int (191 : Int32)), .val (.int (0 : Int32)), .val (.int (1 : Int32)), s11] [(.int iv)])) tgt
                  refine XS.istoreN X0.here hx rfl (hb hby d1_310) rfl (l' := #[.val (.ref ch), .val (.int xf), .val (.int xt), .val (.int iv), .val (.int iv), .val (.int ((ff iv.toInt.toNat) &&& (255 : Int32))), .val (.int (2 : Int32)), .val (.int (128 : Int32)), .val (.int (191 : Int32)), .val (.int (0 : Int32)), .val (.int (1 : Int32)), s11]) rfl ?_
                  show Steps p.tables e below (s₁.setTop (mkF m 311 #[.val (.ref ch), .val (.int xf), .val (.int xt), .val (.int iv), .val (.int iv), .val (.int ((ff iv.toInt.toNat) &&& (255 : Int32))), .val (.int (2 : Int32)), .val (.int (128 : Int32)), .val (.int (191 : Int32)), .val (.int (0 : Int32)), .val (.int (1 : Int32)), s11] [])) tgt
                  refine XS.goto X0.here hx rfl (pc0 := 311) (pc' := 5) rfl (hb hby d1_311) (by decide) (by decide) ?_
                  exact k
                refine own_st (V := s₁.setTop (mkF m 315 #[.val (.ref ch), .val (.int xf), .val (.int xt), .val (.int iv), .val (.int iv), .val (.int ((ff iv.toInt.toNat) &&& (255 : Int32))), .val (.int (2 : Int32)), .val (.int (128 : Int32)), .val (.int (191 : Int32)), .val (.int (0 : Int32)), .val (.int (1 : Int32)), s11] [(.int iv)])) (fun tgt k => ?_) ?_
                · show Steps p.tables e below (s₁.setTop (mkF m 5 #[.val (.ref ch), .val (.int xf), .val (.int xt), .val (.int iv), .val (.int iv), .val (.int ((ff iv.toInt.toNat) &&& (255 : Int32))), .val (.int (2 : Int32)), .val (.int (128 : Int32)), .val (.int (191 : Int32)), .val (.int (0 : Int32)), .val (.int (1 : Int32)), s11] [])) tgt
                  refine XS.iloadN X0.here hx rfl (hb hby d1_5) rfl ?_
                  show Steps p.tables e below (s₁.setTop (mkF m 6 #[.val (.ref ch), .val (.int xf), .val (.int xt), .val (.int iv), .val (.int iv), .val (.int ((ff iv.toInt.toNat) &&& (255 : Int32))), .val (.int (2 : Int32)), .val (.int (128 : Int32)), .val (.int (191 : Int32)), .val (.int (0 : Int32)), .val (.int (1 : Int32)), s11] [(.int iv)])) tgt
                  refine XS.ifYes X0.here hx rfl (pc0 := 6) (pc' := 314) rfl (hb hby d1_6) rfl ((if0 _ _).trans (flt (by rw [own_ilt, show (0 : Int32).toInt = 0 from rfl]; omega)).2.1) (by decide) (by decide) ?_
                  show Steps p.tables e below (s₁.setTop (mkF m 314 #[.val (.ref ch), .val (.int xf), .val (.int xt), .val (.int iv), .val (.int iv), .val (.int ((ff iv.toInt.toNat) &&& (255 : Int32))), .val (.int (2 : Int32)), .val (.int (128 : Int32)), .val (.int (191 : Int32)), .val (.int (0 : Int32)), .val (.int (1 : Int32)), s11] [])) tgt
                  refine XS.iloadN X0.here hx rfl (hb hby d1_314) rfl ?_
                  exact k
                refine own_retI X0 hx hlk Bd.returns (hb hby d1_315) ?_ (by decide) (by decide)
                show Q1 Z ch xf xt ff fu h0 n0 (some (.int iv)) s₁.heap _
                rw [e0]
                refine ⟨?_, N0, rfl⟩
                exact congrArg (fun q => some (Value.int q)) (by rw [← hE, own_bad hc12 (by unfold own_S own_s4; rw [if_neg hc43, if_neg hc57, if_neg hc65, if_pos hc198])])
              · skip
                refine own_st (V := s₁.setTop (mkF m 201 #[.val (.ref ch), .val (.int xf), .val (.int xt), .val (.int (-1 : Int32)), .val (.int iv), .val (.int ((ff iv.toInt.toNat) &&& (255 : Int32))), .val (.int (2 : Int32)), .val (.int (128 : Int32)), .val (.int (191 : Int32)), s9, s10, s11] [])) (fun tgt k => ?_) ?_
                · show Steps p.tables e below (s₁.setTop (mkF m 198 #[.val (.ref ch), .val (.int xf), .val (.int xt), .val (.int (-1 : Int32)), .val (.int iv), .val (.int ((ff iv.toInt.toNat) &&& (255 : Int32))), .val (.int (2 : Int32)), .val (.int (128 : Int32)), .val (.int (191 : Int32)), s9, s10, s11] [(.int xt), (.int (iv + (2 : Int32)))])) tgt
                  refine XS.icmpNo X0.here hx rfl (hb hby d1_198) rfl (flt hc198).2.2.1 ?_
                  exact k
                have hfit : iv.toInt + 2 ≤ xt.toInt := by rw [own_ilt, a2] at hc198; omega
                refine own_st (V := s₁.setTop (mkF m 246 #[.val (.ref ch), .val (.int xf), .val (.int xt), .val (.int (-1 : Int32)), .val (.int iv), .val (.int ((ff iv.toInt.toNat) &&& (255 : Int32))), .val (.int (2 : Int32)), .val (.int (128 : Int32)), .val (.int (191 : Int32)), .val (.int (1 : Int32)), .val (.int (1 : Int32)), .val (.int ((ff (iv.toInt.toNat + 1)) &&& (255 : Int32)))] [(.int (128 : Int32)), (.int ((ff (iv.toInt.toNat + 1)) &&& (255 : Int32)))])) (fun tgt k => ?_) ?_
                · show Steps p.tables e below (s₁.setTop (mkF m 201 #[.val (.ref ch), .val (.int xf), .val (.int xt), .val (.int (-1 : Int32)), .val (.int iv), .val (.int ((ff iv.toInt.toNat) &&& (255 : Int32))), .val (.int (2 : Int32)), .val (.int (128 : Int32)), .val (.int (191 : Int32)), s9, s10, s11] [])) tgt
                  refine XS.iconst X0.here hx rfl (hb hby d1_201) ?_
                  show Steps p.tables e below (s₁.setTop (mkF m 202 #[.val (.ref ch), .val (.int xf), .val (.int xt), .val (.int (-1 : Int32)), .val (.int iv), .val (.int ((ff iv.toInt.toNat) &&& (255 : Int32))), .val (.int (2 : Int32)), .val (.int (128 : Int32)), .val (.int (191 : Int32)), s9, s10, s11] [(.int (1 : Int32))])) tgt
                  refine XS.goto X0.here hx rfl (pc0 := 202) (pc' := 206) rfl (hb hby d1_202) (by decide) (by decide) ?_
                  show Steps p.tables e below (s₁.setTop (mkF m 206 #[.val (.ref ch), .val (.int xf), .val (.int xt), .val (.int (-1 : Int32)), .val (.int iv), .val (.int ((ff iv.toInt.toNat) &&& (255 : Int32))), .val (.int (2 : Int32)), .val (.int (128 : Int32)), .val (.int (191 : Int32)), s9, s10, s11] [(.int (1 : Int32))])) tgt
                  refine XS.istoreS X0.here hx rfl (hb hby d1_206) rfl rfl o9 ?_
                  show Steps p.tables e below (s₁.setTop (mkF m 208 #[.val (.ref ch), .val (.int xf), .val (.int xt), .val (.int (-1 : Int32)), .val (.int iv), .val (.int ((ff iv.toInt.toNat) &&& (255 : Int32))), .val (.int (2 : Int32)), .val (.int (128 : Int32)), .val (.int (191 : Int32)), .val (.int (1 : Int32)), s10, s11] [])) tgt
                  refine XS.iconst X0.here hx rfl (hb hby d1_208) ?_
                  show Steps p.tables e below (s₁.setTop (mkF m 209 #[.val (.ref ch), .val (.int xf), .val (.int xt), .val (.int (-1 : Int32)), .val (.int iv), .val (.int ((ff iv.toInt.toNat) &&& (255 : Int32))), .val (.int (2 : Int32)), .val (.int (128 : Int32)), .val (.int (191 : Int32)), .val (.int (1 : Int32)), s10, s11] [(.int (1 : Int32))])) tgt
                  refine XS.istoreS X0.here hx rfl (hb hby d1_209) rfl rfl o10 ?_
                  show Steps p.tables e below (s₁.setTop (mkF m 211 #[.val (.ref ch), .val (.int xf), .val (.int xt), .val (.int (-1 : Int32)), .val (.int iv), .val (.int ((ff iv.toInt.toNat) &&& (255 : Int32))), .val (.int (2 : Int32)), .val (.int (128 : Int32)), .val (.int (191 : Int32)), .val (.int (1 : Int32)), .val (.int (1 : Int32)), s11] [])) tgt
                  refine XS.iload X0.here hx rfl (hb hby d1_211) rfl ?_
                  show Steps p.tables e below (s₁.setTop (mkF m 213 #[.val (.ref ch), .val (.int xf), .val (.int xt), .val (.int (-1 : Int32)), .val (.int iv), .val (.int ((ff iv.toInt.toNat) &&& (255 : Int32))), .val (.int (2 : Int32)), .val (.int (128 : Int32)), .val (.int (191 : Int32)), .val (.int (1 : Int32)), .val (.int (1 : Int32)), s11] [(.int (1 : Int32))])) tgt
                  refine XS.ifNo X0.here hx rfl (hb hby d1_213) rfl ((if0 _ _).trans (feq (by decide : ¬ ((1 : Int32) = (0 : Int32)))).1) ?_
                  show Steps p.tables e below (s₁.setTop (mkF m 216 #[.val (.ref ch), .val (.int xf), .val (.int xt), .val (.int (-1 : Int32)), .val (.int iv), .val (.int ((ff iv.toInt.toNat) &&& (255 : Int32))), .val (.int (2 : Int32)), .val (.int (128 : Int32)), .val (.int (191 : Int32)), .val (.int (1 : Int32)), .val (.int (1 : Int32)), s11] [])) tgt
                  refine XS.iload X0.here hx rfl (hb hby d1_216) rfl ?_
                  show Steps p.tables e below (s₁.setTop (mkF m 218 #[.val (.ref ch), .val (.int xf), .val (.int xt), .val (.int (-1 : Int32)), .val (.int iv), .val (.int ((ff iv.toInt.toNat) &&& (255 : Int32))), .val (.int (2 : Int32)), .val (.int (128 : Int32)), .val (.int (191 : Int32)), .val (.int (1 : Int32)), .val (.int (1 : Int32)), s11] [(.int (1 : Int32))])) tgt
                  refine XS.iload X0.here hx rfl (hb hby d1_218) rfl ?_
                  show Steps p.tables e below (s₁.setTop (mkF m 220 #[.val (.ref ch), .val (.int xf), .val (.int xt), .val (.int (-1 : Int32)), .val (.int iv), .val (.int ((ff iv.toInt.toNat) &&& (255 : Int32))), .val (.int (2 : Int32)), .val (.int (128 : Int32)), .val (.int (191 : Int32)), .val (.int (1 : Int32)), .val (.int (1 : Int32)), s11] [(.int (2 : Int32)), (.int (1 : Int32))])) tgt
                  refine XS.icmpNo X0.here hx rfl (hb hby d1_220) rfl (tlt (by decide : (1 : Int32) < (2 : Int32))).2.1 ?_
                  show Steps p.tables e below (s₁.setTop (mkF m 223 #[.val (.ref ch), .val (.int xf), .val (.int xt), .val (.int (-1 : Int32)), .val (.int iv), .val (.int ((ff iv.toInt.toNat) &&& (255 : Int32))), .val (.int (2 : Int32)), .val (.int (128 : Int32)), .val (.int (191 : Int32)), .val (.int (1 : Int32)), .val (.int (1 : Int32)), s11] [])) tgt
                  refine XS.aloadN X0.here hx rfl (hb hby d1_223) rfl rfl ?_
                  show Steps p.tables e below (s₁.setTop (mkF m 224 #[.val (.ref ch), .val (.int xf), .val (.int xt), .val (.int (-1 : Int32)), .val (.int iv), .val (.int ((ff iv.toInt.toNat) &&& (255 : Int32))), .val (.int (2 : Int32)), .val (.int (128 : Int32)), .val (.int (191 : Int32)), .val (.int (1 : Int32)), .val (.int (1 : Int32)), s11] [(.ref ch)])) tgt
                  refine XS.iload X0.here hx rfl (hb hby d1_224) rfl ?_
                  show Steps p.tables e below (s₁.setTop (mkF m 226 #[.val (.ref ch), .val (.int xf), .val (.int xt), .val (.int (-1 : Int32)), .val (.int iv), .val (.int ((ff iv.toInt.toNat) &&& (255 : Int32))), .val (.int (2 : Int32)), .val (.int (128 : Int32)), .val (.int (191 : Int32)), .val (.int (1 : Int32)), .val (.int (1 : Int32)), s11] [(.int iv), (.ref ch)])) tgt
                  refine XS.iload X0.here hx rfl (hb hby d1_226) rfl ?_
                  show Steps p.tables e below (s₁.setTop (mkF m 228 #[.val (.ref ch), .val (.int xf), .val (.int xt), .val (.int (-1 : Int32)), .val (.int iv), .val (.int ((ff iv.toInt.toNat) &&& (255 : Int32))), .val (.int (2 : Int32)), .val (.int (128 : Int32)), .val (.int (191 : Int32)), .val (.int (1 : Int32)), .val (.int (1 : Int32)), s11] [(.int (1 : Int32)), (.int iv), (.ref ch)])) tgt
                  refine XS.iadd X0.here hx rfl (hb hby d1_228) rfl ?_
                  show Steps p.tables e below (s₁.setTop (mkF m 229 #[.val (.ref ch), .val (.int xf), .val (.int xt), .val (.int (-1 : Int32)), .val (.int iv), .val (.int ((ff iv.toInt.toNat) &&& (255 : Int32))), .val (.int (2 : Int32)), .val (.int (128 : Int32)), .val (.int (191 : Int32)), .val (.int (1 : Int32)), .val (.int (1 : Int32)), s11] [(.int (iv + (1 : Int32))), (.ref ch)])) tgt
                  refine own_baload X0 hx hZ e0 A1 (j := (iv + (1 : Int32))) (k := (iv.toInt.toNat + 1)) a1 (by rw [own_ilt] at hc12; have := hfit; omega) (g := (mkF m 229 #[.val (.ref ch), .val (.int xf), .val (.int xt), .val (.int (-1 : Int32)), .val (.int iv), .val (.int ((ff iv.toInt.toNat) &&& (255 : Int32))), .val (.int (2 : Int32)), .val (.int (128 : Int32)), .val (.int (191 : Int32)), .val (.int (1 : Int32)), .val (.int (1 : Int32)), s11] [(.int (iv + (1 : Int32))), (.ref ch)])) rfl rfl (hb hby d1_229) ?_
                  show Steps p.tables e below (s₁.setTop (mkF m 230 #[.val (.ref ch), .val (.int xf), .val (.int xt), .val (.int (-1 : Int32)), .val (.int iv), .val (.int ((ff iv.toInt.toNat) &&& (255 : Int32))), .val (.int (2 : Int32)), .val (.int (128 : Int32)), .val (.int (191 : Int32)), .val (.int (1 : Int32)), .val (.int (1 : Int32)), s11] [(.int (ff (iv.toInt.toNat + 1)))])) tgt
                  refine XS.sipush X0.here hx rfl (hb hby d1_230) ?_
                  show Steps p.tables e below (s₁.setTop (mkF m 233 #[.val (.ref ch), .val (.int xf), .val (.int xt), .val (.int (-1 : Int32)), .val (.int iv), .val (.int ((ff iv.toInt.toNat) &&& (255 : Int32))), .val (.int (2 : Int32)), .val (.int (128 : Int32)), .val (.int (191 : Int32)), .val (.int (1 : Int32)), .val (.int (1 : Int32)), s11] [(.int (255 : Int32)), (.int (ff (iv.toInt.toNat + 1)))])) tgt
                  refine XS.iand X0.here hx rfl (hb hby d1_233) rfl ?_
                  show Steps p.tables e below (s₁.setTop (mkF m 234 #[.val (.ref ch), .val (.int xf), .val (.int xt), .val (.int (-1 : Int32)), .val (.int iv), .val (.int ((ff iv.toInt.toNat) &&& (255 : Int32))), .val (.int (2 : Int32)), .val (.int (128 : Int32)), .val (.int (191 : Int32)), .val (.int (1 : Int32)), .val (.int (1 : Int32)), s11] [(.int ((ff (iv.toInt.toNat + 1)) &&& (255 : Int32)))])) tgt
                  refine XS.istoreS X0.here hx rfl (hb hby d1_234) rfl rfl o11 ?_
                  show Steps p.tables e below (s₁.setTop (mkF m 236 #[.val (.ref ch), .val (.int xf), .val (.int xt), .val (.int (-1 : Int32)), .val (.int iv), .val (.int ((ff iv.toInt.toNat) &&& (255 : Int32))), .val (.int (2 : Int32)), .val (.int (128 : Int32)), .val (.int (191 : Int32)), .val (.int (1 : Int32)), .val (.int (1 : Int32)), .val (.int ((ff (iv.toInt.toNat + 1)) &&& (255 : Int32)))] [])) tgt
                  refine XS.iload X0.here hx rfl (hb hby d1_236) rfl ?_
                  show Steps p.tables e below (s₁.setTop (mkF m 238 #[.val (.ref ch), .val (.int xf), .val (.int xt), .val (.int (-1 : Int32)), .val (.int iv), .val (.int ((ff iv.toInt.toNat) &&& (255 : Int32))), .val (.int (2 : Int32)), .val (.int (128 : Int32)), .val (.int (191 : Int32)), .val (.int (1 : Int32)), .val (.int (1 : Int32)), .val (.int ((ff (iv.toInt.toNat + 1)) &&& (255 : Int32)))] [(.int (1 : Int32))])) tgt
                  refine XS.iconst X0.here hx rfl (hb hby d1_238) ?_
                  show Steps p.tables e below (s₁.setTop (mkF m 239 #[.val (.ref ch), .val (.int xf), .val (.int xt), .val (.int (-1 : Int32)), .val (.int iv), .val (.int ((ff iv.toInt.toNat) &&& (255 : Int32))), .val (.int (2 : Int32)), .val (.int (128 : Int32)), .val (.int (191 : Int32)), .val (.int (1 : Int32)), .val (.int (1 : Int32)), .val (.int ((ff (iv.toInt.toNat + 1)) &&& (255 : Int32)))] [(.int (1 : Int32)), (.int (1 : Int32))])) tgt
                  refine XS.icmpNo X0.here hx rfl (hb hby d1_239) rfl (teq (by decide : (1 : Int32) = (1 : Int32))).2 ?_
                  show Steps p.tables e below (s₁.setTop (mkF m 242 #[.val (.ref ch), .val (.int xf), .val (.int xt), .val (.int (-1 : Int32)), .val (.int iv), .val (.int ((ff iv.toInt.toNat) &&& (255 : Int32))), .val (.int (2 : Int32)), .val (.int (128 : Int32)), .val (.int (191 : Int32)), .val (.int (1 : Int32)), .val (.int (1 : Int32)), .val (.int ((ff (iv.toInt.toNat + 1)) &&& (255 : Int32)))] [])) tgt
                  refine XS.iload X0.here hx rfl (hb hby d1_242) rfl ?_
                  show Steps p.tables e below (s₁.setTop (mkF m 244 #[.val (.ref ch), .val (.int xf), .val (.int xt), .val (.int (-1 : Int32)), .val (.int iv), .val (.int ((ff iv.toInt.toNat) &&& (255 : Int32))), .val (.int (2 : Int32)), .val (.int (128 : Int32)), .val (.int (191 : Int32)), .val (.int (1 : Int32)), .val (.int (1 : Int32)), .val (.int ((ff (iv.toInt.toNat + 1)) &&& (255 : Int32)))] [(.int ((ff (iv.toInt.toNat + 1)) &&& (255 : Int32)))])) tgt
                  refine XS.iload X0.here hx rfl (hb hby d1_244) rfl ?_
                  exact k
                by_cases hc246 : ((ff (iv.toInt.toNat + 1)) &&& (255 : Int32)) < (128 : Int32)
                · skip
                  refine own_st (V := s₁.setTop (mkF m 290 #[.val (.ref ch), .val (.int xf), .val (.int xt), .val (.int (-1 : Int32)), .val (.int iv), .val (.int ((ff iv.toInt.toNat) &&& (255 : Int32))), .val (.int (2 : Int32)), .val (.int (128 : Int32)), .val (.int (191 : Int32)), .val (.int (0 : Int32)), .val (.int ((1 : Int32) + (1 : Int32))), .val (.int ((ff (iv.toInt.toNat + 1)) &&& (255 : Int32)))] [])) (fun tgt k => ?_) ?_
                  · show Steps p.tables e below (s₁.setTop (mkF m 246 #[.val (.ref ch), .val (.int xf), .val (.int xt), .val (.int (-1 : Int32)), .val (.int iv), .val (.int ((ff iv.toInt.toNat) &&& (255 : Int32))), .val (.int (2 : Int32)), .val (.int (128 : Int32)), .val (.int (191 : Int32)), .val (.int (1 : Int32)), .val (.int (1 : Int32)), .val (.int ((ff (iv.toInt.toNat + 1)) &&& (255 : Int32)))] [(.int (128 : Int32)), (.int ((ff (iv.toInt.toNat + 1)) &&& (255 : Int32)))])) tgt
                    refine XS.icmpYes X0.here hx rfl (pc0 := 246) (pc' := 260) rfl (hb hby d1_246) rfl (tlt hc246).1 (by decide) (by decide) ?_
                    show Steps p.tables e below (s₁.setTop (mkF m 260 #[.val (.ref ch), .val (.int xf), .val (.int xt), .val (.int (-1 : Int32)), .val (.int iv), .val (.int ((ff iv.toInt.toNat) &&& (255 : Int32))), .val (.int (2 : Int32)), .val (.int (128 : Int32)), .val (.int (191 : Int32)), .val (.int (1 : Int32)), .val (.int (1 : Int32)), .val (.int ((ff (iv.toInt.toNat + 1)) &&& (255 : Int32)))] [])) tgt
                    refine XS.iconst X0.here hx rfl (hb hby d1_260) ?_
                    show Steps p.tables e below (s₁.setTop (mkF m 261 #[.val (.ref ch), .val (.int xf), .val (.int xt), .val (.int (-1 : Int32)), .val (.int iv), .val (.int ((ff iv.toInt.toNat) &&& (255 : Int32))), .val (.int (2 : Int32)), .val (.int (128 : Int32)), .val (.int (191 : Int32)), .val (.int (1 : Int32)), .val (.int (1 : Int32)), .val (.int ((ff (iv.toInt.toNat + 1)) &&& (255 : Int32)))] [(.int (0 : Int32))])) tgt
                    refine XS.goto X0.here hx rfl (pc0 := 261) (pc' := 285) rfl (hb hby d1_261) (by decide) (by decide) ?_
                    show Steps p.tables e below (s₁.setTop (mkF m 285 #[.val (.ref ch), .val (.int xf), .val (.int xt), .val (.int (-1 : Int32)), .val (.int iv), .val (.int ((ff iv.toInt.toNat) &&& (255 : Int32))), .val (.int (2 : Int32)), .val (.int (128 : Int32)), .val (.int (191 : Int32)), .val (.int (1 : Int32)), .val (.int (1 : Int32)), .val (.int ((ff (iv.toInt.toNat + 1)) &&& (255 : Int32)))] [(.int (0 : Int32))])) tgt
                    refine XS.istore X0.here hx rfl (hb hby d1_285) rfl (l' := #[.val (.ref ch), .val (.int xf), .val (.int xt), .val (.int (-1 : Int32)), .val (.int iv), .val (.int ((ff iv.toInt.toNat) &&& (255 : Int32))), .val (.int (2 : Int32)), .val (.int (128 : Int32)), .val (.int (191 : Int32)), .val (.int (0 : Int32)), .val (.int (1 : Int32)), .val (.int ((ff (iv.toInt.toNat + 1)) &&& (255 : Int32)))]) rfl ?_
                    show Steps p.tables e below (s₁.setTop (mkF m 287 #[.val (.ref ch), .val (.int xf), .val (.int xt), .val (.int (-1 : Int32)), .val (.int iv), .val (.int ((ff iv.toInt.toNat) &&& (255 : Int32))), .val (.int (2 : Int32)), .val (.int (128 : Int32)), .val (.int (191 : Int32)), .val (.int (0 : Int32)), .val (.int (1 : Int32)), .val (.int ((ff (iv.toInt.toNat + 1)) &&& (255 : Int32)))] [])) tgt
                    refine XS.iinc X0.here hx rfl (hb hby d1_287) rfl (l' := #[.val (.ref ch), .val (.int xf), .val (.int xt), .val (.int (-1 : Int32)), .val (.int iv), .val (.int ((ff iv.toInt.toNat) &&& (255 : Int32))), .val (.int (2 : Int32)), .val (.int (128 : Int32)), .val (.int (191 : Int32)), .val (.int (0 : Int32)), .val (.int ((1 : Int32) + (1 : Int32))), .val (.int ((ff (iv.toInt.toNat + 1)) &&& (255 : Int32)))]) rfl ?_
                    exact k
                  rw [show ((1 : Int32) + (1 : Int32)) = (2 : Int32) from by decide]
                  refine own_st (V := s₁.setTop (mkF m 5 #[.val (.ref ch), .val (.int xf), .val (.int xt), .val (.int iv), .val (.int iv), .val (.int ((ff iv.toInt.toNat) &&& (255 : Int32))), .val (.int (2 : Int32)), .val (.int (128 : Int32)), .val (.int (191 : Int32)), .val (.int (0 : Int32)), .val (.int (2 : Int32)), .val (.int ((ff (iv.toInt.toNat + 1)) &&& (255 : Int32)))] [])) (fun tgt k => ?_) ?_
                  · show Steps p.tables e below (s₁.setTop (mkF m 290 #[.val (.ref ch), .val (.int xf), .val (.int xt), .val (.int (-1 : Int32)), .val (.int iv), .val (.int ((ff iv.toInt.toNat) &&& (255 : Int32))), .val (.int (2 : Int32)), .val (.int (128 : Int32)), .val (.int (191 : Int32)), .val (.int (0 : Int32)), .val (.int (2 : Int32)), .val (.int ((ff (iv.toInt.toNat + 1)) &&& (255 : Int32)))] [])) tgt
                    refine XS.goto X0.here hx rfl (pc0 := 290) (pc' := 211) rfl (hb hby d1_290) (by decide) (by decide) ?_
                    show Steps p.tables e below (s₁.setTop (mkF m 211 #[.val (.ref ch), .val (.int xf), .val (.int xt), .val (.int (-1 : Int32)), .val (.int iv), .val (.int ((ff iv.toInt.toNat) &&& (255 : Int32))), .val (.int (2 : Int32)), .val (.int (128 : Int32)), .val (.int (191 : Int32)), .val (.int (0 : Int32)), .val (.int (2 : Int32)), .val (.int ((ff (iv.toInt.toNat + 1)) &&& (255 : Int32)))] [])) tgt
                    refine XS.iload X0.here hx rfl (hb hby d1_211) rfl ?_
                    show Steps p.tables e below (s₁.setTop (mkF m 213 #[.val (.ref ch), .val (.int xf), .val (.int xt), .val (.int (-1 : Int32)), .val (.int iv), .val (.int ((ff iv.toInt.toNat) &&& (255 : Int32))), .val (.int (2 : Int32)), .val (.int (128 : Int32)), .val (.int (191 : Int32)), .val (.int (0 : Int32)), .val (.int (2 : Int32)), .val (.int ((ff (iv.toInt.toNat + 1)) &&& (255 : Int32)))] [(.int (0 : Int32))])) tgt
                    refine XS.ifYes X0.here hx rfl (pc0 := 213) (pc' := 293) rfl (hb hby d1_213) rfl ((if0 _ _).trans (teq (by decide : (0 : Int32) = (0 : Int32))).1) (by decide) (by decide) ?_
                    show Steps p.tables e below (s₁.setTop (mkF m 293 #[.val (.ref ch), .val (.int xf), .val (.int xt), .val (.int (-1 : Int32)), .val (.int iv), .val (.int ((ff iv.toInt.toNat) &&& (255 : Int32))), .val (.int (2 : Int32)), .val (.int (128 : Int32)), .val (.int (191 : Int32)), .val (.int (0 : Int32)), .val (.int (2 : Int32)), .val (.int ((ff (iv.toInt.toNat + 1)) &&& (255 : Int32)))] [])) tgt
                    refine XS.iload X0.here hx rfl (hb hby d1_293) rfl ?_
                    show Steps p.tables e below (s₁.setTop (mkF m 295 #[.val (.ref ch), .val (.int xf), .val (.int xt), .val (.int (-1 : Int32)), .val (.int iv), .val (.int ((ff iv.toInt.toNat) &&& (255 : Int32))), .val (.int (2 : Int32)), .val (.int (128 : Int32)), .val (.int (191 : Int32)), .val (.int (0 : Int32)), .val (.int (2 : Int32)), .val (.int ((ff (iv.toInt.toNat + 1)) &&& (255 : Int32)))] [(.int (0 : Int32))])) tgt
                    refine XS.ifYes X0.here hx rfl (pc0 := 295) (pc' := 308) rfl (hb hby d1_295) rfl ((if0 _ _).trans (teq (by decide : (0 : Int32) = (0 : Int32))).1) (by decide) (by decide) ?_
                    show Steps p.tables e below (s₁.setTop (mkF m 308 #[.val (.ref ch), .val (.int xf), .val (.int xt), .val (.int (-1 : Int32)), .val (.int iv), .val (.int ((ff iv.toInt.toNat) &&& (255 : Int32))), .val (.int (2 : Int32)), .val (.int (128 : Int32)), .val (.int (191 : Int32)), .val (.int (0 : Int32)), .val (.int (2 : Int32)), .val (.int ((ff (iv.toInt.toNat + 1)) &&& (255 : Int32)))] [])) tgt
                    refine XS.iload X0.here hx rfl (hb hby d1_308) rfl ?_
                    show Steps p.tables e below (s₁.setTop (mkF m 310 #[.val (.ref ch), .val (.int xf), .val (.int xt), .val (.int (-1 : Int32)), .val (.int iv), .val (.int ((ff iv.toInt.toNat) &&& (255 : Int32))), .val (.int (2 : Int32)), .val (.int (128 : Int32)), .val (.int (191 : Int32)), .val (.int (0 : Int32)), .val (.int (2 : Int32)), .val (.int ((ff (iv.toInt.toNat + 1)) &&& (255 : Int32)))] [(.int iv)])) tgt
                    refine XS.istoreN X0.here hx rfl (hb hby d1_310) rfl (l' := #[.val (.ref ch), .val (.int xf), .val (.int xt), .val (.int iv), .val (.int iv), .val (.int ((ff iv.toInt.toNat) &&& (255 : Int32))), .val (.int (2 : Int32)), .val (.int (128 : Int32)), .val (.int (191 : Int32)), .val (.int (0 : Int32)), .val (.int (2 : Int32)), .val (.int ((ff (iv.toInt.toNat + 1)) &&& (255 : Int32)))]) rfl ?_
                    show Steps p.tables e below (s₁.setTop (mkF m 311 #[.val (.ref ch), .val (.int xf), .val (.int xt), .val (.int iv), .val (.int iv), .val (.int ((ff iv.toInt.toNat) &&& (255 : Int32))), .val (.int (2 : Int32)), .val (.int (128 : Int32)), .val (.int (191 : Int32)), .val (.int (0 : Int32)), .val (.int (2 : Int32)), .val (.int ((ff (iv.toInt.toNat + 1)) &&& (255 : Int32)))] [])) tgt
                    refine XS.goto X0.here hx rfl (pc0 := 311) (pc' := 5) rfl (hb hby d1_311) (by decide) (by decide) ?_
                    exact k
                  refine own_st (V := s₁.setTop (mkF m 315 #[.val (.ref ch), .val (.int xf), .val (.int xt), .val (.int iv), .val (.int iv), .val (.int ((ff iv.toInt.toNat) &&& (255 : Int32))), .val (.int (2 : Int32)), .val (.int (128 : Int32)), .val (.int (191 : Int32)), .val (.int (0 : Int32)), .val (.int (2 : Int32)), .val (.int ((ff (iv.toInt.toNat + 1)) &&& (255 : Int32)))] [(.int iv)])) (fun tgt k => ?_) ?_
                  · show Steps p.tables e below (s₁.setTop (mkF m 5 #[.val (.ref ch), .val (.int xf), .val (.int xt), .val (.int iv), .val (.int iv), .val (.int ((ff iv.toInt.toNat) &&& (255 : Int32))), .val (.int (2 : Int32)), .val (.int (128 : Int32)), .val (.int (191 : Int32)), .val (.int (0 : Int32)), .val (.int (2 : Int32)), .val (.int ((ff (iv.toInt.toNat + 1)) &&& (255 : Int32)))] [])) tgt
                    refine XS.iloadN X0.here hx rfl (hb hby d1_5) rfl ?_
                    show Steps p.tables e below (s₁.setTop (mkF m 6 #[.val (.ref ch), .val (.int xf), .val (.int xt), .val (.int iv), .val (.int iv), .val (.int ((ff iv.toInt.toNat) &&& (255 : Int32))), .val (.int (2 : Int32)), .val (.int (128 : Int32)), .val (.int (191 : Int32)), .val (.int (0 : Int32)), .val (.int (2 : Int32)), .val (.int ((ff (iv.toInt.toNat + 1)) &&& (255 : Int32)))] [(.int iv)])) tgt
                    refine XS.ifYes X0.here hx rfl (pc0 := 6) (pc' := 314) rfl (hb hby d1_6) rfl ((if0 _ _).trans (flt (by rw [own_ilt, show (0 : Int32).toInt = 0 from rfl]; omega)).2.1) (by decide) (by decide) ?_
                    show Steps p.tables e below (s₁.setTop (mkF m 314 #[.val (.ref ch), .val (.int xf), .val (.int xt), .val (.int iv), .val (.int iv), .val (.int ((ff iv.toInt.toNat) &&& (255 : Int32))), .val (.int (2 : Int32)), .val (.int (128 : Int32)), .val (.int (191 : Int32)), .val (.int (0 : Int32)), .val (.int (2 : Int32)), .val (.int ((ff (iv.toInt.toNat + 1)) &&& (255 : Int32)))] [])) tgt
                    refine XS.iloadN X0.here hx rfl (hb hby d1_314) rfl ?_
                    exact k
                  refine own_retI X0 hx hlk Bd.returns (hb hby d1_315) ?_ (by decide) (by decide)
                  show Q1 Z ch xf xt ff fu h0 n0 (some (.int iv)) s₁.heap _
                  rw [e0]
                  refine ⟨?_, N0, rfl⟩
                  exact congrArg (fun q => some (Value.int q)) (by rw [← hE, own_bad hc12 (by unfold own_S own_s4; rw [if_neg hc43, if_neg hc57, if_neg hc65, if_neg hc198, if_pos hc246])])
                · skip
                  refine own_st (V := s₁.setTop (mkF m 253 #[.val (.ref ch), .val (.int xf), .val (.int xt), .val (.int (-1 : Int32)), .val (.int iv), .val (.int ((ff iv.toInt.toNat) &&& (255 : Int32))), .val (.int (2 : Int32)), .val (.int (128 : Int32)), .val (.int (191 : Int32)), .val (.int (1 : Int32)), .val (.int (1 : Int32)), .val (.int ((ff (iv.toInt.toNat + 1)) &&& (255 : Int32)))] [(.int (191 : Int32)), (.int ((ff (iv.toInt.toNat + 1)) &&& (255 : Int32)))])) (fun tgt k => ?_) ?_
                  · show Steps p.tables e below (s₁.setTop (mkF m 246 #[.val (.ref ch), .val (.int xf), .val (.int xt), .val (.int (-1 : Int32)), .val (.int iv), .val (.int ((ff iv.toInt.toNat) &&& (255 : Int32))), .val (.int (2 : Int32)), .val (.int (128 : Int32)), .val (.int (191 : Int32)), .val (.int (1 : Int32)), .val (.int (1 : Int32)), .val (.int ((ff (iv.toInt.toNat + 1)) &&& (255 : Int32)))] [(.int (128 : Int32)), (.int ((ff (iv.toInt.toNat + 1)) &&& (255 : Int32)))])) tgt
                    refine XS.icmpNo X0.here hx rfl (hb hby d1_246) rfl (flt hc246).1 ?_
                    show Steps p.tables e below (s₁.setTop (mkF m 249 #[.val (.ref ch), .val (.int xf), .val (.int xt), .val (.int (-1 : Int32)), .val (.int iv), .val (.int ((ff iv.toInt.toNat) &&& (255 : Int32))), .val (.int (2 : Int32)), .val (.int (128 : Int32)), .val (.int (191 : Int32)), .val (.int (1 : Int32)), .val (.int (1 : Int32)), .val (.int ((ff (iv.toInt.toNat + 1)) &&& (255 : Int32)))] [])) tgt
                    refine XS.iload X0.here hx rfl (hb hby d1_249) rfl ?_
                    show Steps p.tables e below (s₁.setTop (mkF m 251 #[.val (.ref ch), .val (.int xf), .val (.int xt), .val (.int (-1 : Int32)), .val (.int iv), .val (.int ((ff iv.toInt.toNat) &&& (255 : Int32))), .val (.int (2 : Int32)), .val (.int (128 : Int32)), .val (.int (191 : Int32)), .val (.int (1 : Int32)), .val (.int (1 : Int32)), .val (.int ((ff (iv.toInt.toNat + 1)) &&& (255 : Int32)))] [(.int ((ff (iv.toInt.toNat + 1)) &&& (255 : Int32)))])) tgt
                    refine XS.iload X0.here hx rfl (hb hby d1_251) rfl ?_
                    exact k
                  by_cases hc253 : (191 : Int32) < ((ff (iv.toInt.toNat + 1)) &&& (255 : Int32))
                  · skip
                    refine own_st (V := s₁.setTop (mkF m 290 #[.val (.ref ch), .val (.int xf), .val (.int xt), .val (.int (-1 : Int32)), .val (.int iv), .val (.int ((ff iv.toInt.toNat) &&& (255 : Int32))), .val (.int (2 : Int32)), .val (.int (128 : Int32)), .val (.int (191 : Int32)), .val (.int (0 : Int32)), .val (.int ((1 : Int32) + (1 : Int32))), .val (.int ((ff (iv.toInt.toNat + 1)) &&& (255 : Int32)))] [])) (fun tgt k => ?_) ?_
                    · show Steps p.tables e below (s₁.setTop (mkF m 253 #[.val (.ref ch), .val (.int xf), .val (.int xt), .val (.int (-1 : Int32)), .val (.int iv), .val (.int ((ff iv.toInt.toNat) &&& (255 : Int32))), .val (.int (2 : Int32)), .val (.int (128 : Int32)), .val (.int (191 : Int32)), .val (.int (1 : Int32)), .val (.int (1 : Int32)), .val (.int ((ff (iv.toInt.toNat + 1)) &&& (255 : Int32)))] [(.int (191 : Int32)), (.int ((ff (iv.toInt.toNat + 1)) &&& (255 : Int32)))])) tgt
                      refine XS.icmpYes X0.here hx rfl (pc0 := 253) (pc' := 260) rfl (hb hby d1_253) rfl (tlt hc253).2.2.1 (by decide) (by decide) ?_
                      show Steps p.tables e below (s₁.setTop (mkF m 260 #[.val (.ref ch), .val (.int xf), .val (.int xt), .val (.int (-1 : Int32)), .val (.int iv), .val (.int ((ff iv.toInt.toNat) &&& (255 : Int32))), .val (.int (2 : Int32)), .val (.int (128 : Int32)), .val (.int (191 : Int32)), .val (.int (1 : Int32)), .val (.int (1 : Int32)), .val (.int ((ff (iv.toInt.toNat + 1)) &&& (255 : Int32)))] [])) tgt
                      refine XS.iconst X0.here hx rfl (hb hby d1_260) ?_
                      show Steps p.tables e below (s₁.setTop (mkF m 261 #[.val (.ref ch), .val (.int xf), .val (.int xt), .val (.int (-1 : Int32)), .val (.int iv), .val (.int ((ff iv.toInt.toNat) &&& (255 : Int32))), .val (.int (2 : Int32)), .val (.int (128 : Int32)), .val (.int (191 : Int32)), .val (.int (1 : Int32)), .val (.int (1 : Int32)), .val (.int ((ff (iv.toInt.toNat + 1)) &&& (255 : Int32)))] [(.int (0 : Int32))])) tgt
                      refine XS.goto X0.here hx rfl (pc0 := 261) (pc' := 285) rfl (hb hby d1_261) (by decide) (by decide) ?_
                      show Steps p.tables e below (s₁.setTop (mkF m 285 #[.val (.ref ch), .val (.int xf), .val (.int xt), .val (.int (-1 : Int32)), .val (.int iv), .val (.int ((ff iv.toInt.toNat) &&& (255 : Int32))), .val (.int (2 : Int32)), .val (.int (128 : Int32)), .val (.int (191 : Int32)), .val (.int (1 : Int32)), .val (.int (1 : Int32)), .val (.int ((ff (iv.toInt.toNat + 1)) &&& (255 : Int32)))] [(.int (0 : Int32))])) tgt
                      refine XS.istore X0.here hx rfl (hb hby d1_285) rfl (l' := #[.val (.ref ch), .val (.int xf), .val (.int xt), .val (.int (-1 : Int32)), .val (.int iv), .val (.int ((ff iv.toInt.toNat) &&& (255 : Int32))), .val (.int (2 : Int32)), .val (.int (128 : Int32)), .val (.int (191 : Int32)), .val (.int (0 : Int32)), .val (.int (1 : Int32)), .val (.int ((ff (iv.toInt.toNat + 1)) &&& (255 : Int32)))]) rfl ?_
                      show Steps p.tables e below (s₁.setTop (mkF m 287 #[.val (.ref ch), .val (.int xf), .val (.int xt), .val (.int (-1 : Int32)), .val (.int iv), .val (.int ((ff iv.toInt.toNat) &&& (255 : Int32))), .val (.int (2 : Int32)), .val (.int (128 : Int32)), .val (.int (191 : Int32)), .val (.int (0 : Int32)), .val (.int (1 : Int32)), .val (.int ((ff (iv.toInt.toNat + 1)) &&& (255 : Int32)))] [])) tgt
                      refine XS.iinc X0.here hx rfl (hb hby d1_287) rfl (l' := #[.val (.ref ch), .val (.int xf), .val (.int xt), .val (.int (-1 : Int32)), .val (.int iv), .val (.int ((ff iv.toInt.toNat) &&& (255 : Int32))), .val (.int (2 : Int32)), .val (.int (128 : Int32)), .val (.int (191 : Int32)), .val (.int (0 : Int32)), .val (.int ((1 : Int32) + (1 : Int32))), .val (.int ((ff (iv.toInt.toNat + 1)) &&& (255 : Int32)))]) rfl ?_
                      exact k
                    rw [show ((1 : Int32) + (1 : Int32)) = (2 : Int32) from by decide]
                    refine own_st (V := s₁.setTop (mkF m 5 #[.val (.ref ch), .val (.int xf), .val (.int xt), .val (.int iv), .val (.int iv), .val (.int ((ff iv.toInt.toNat) &&& (255 : Int32))), .val (.int (2 : Int32)), .val (.int (128 : Int32)), .val (.int (191 : Int32)), .val (.int (0 : Int32)), .val (.int (2 : Int32)), .val (.int ((ff (iv.toInt.toNat + 1)) &&& (255 : Int32)))] [])) (fun tgt k => ?_) ?_
                    · show Steps p.tables e below (s₁.setTop (mkF m 290 #[.val (.ref ch), .val (.int xf), .val (.int xt), .val (.int (-1 : Int32)), .val (.int iv), .val (.int ((ff iv.toInt.toNat) &&& (255 : Int32))), .val (.int (2 : Int32)), .val (.int (128 : Int32)), .val (.int (191 : Int32)), .val (.int (0 : Int32)), .val (.int (2 : Int32)), .val (.int ((ff (iv.toInt.toNat + 1)) &&& (255 : Int32)))] [])) tgt
                      refine XS.goto X0.here hx rfl (pc0 := 290) (pc' := 211) rfl (hb hby d1_290) (by decide) (by decide) ?_
                      show Steps p.tables e below (s₁.setTop (mkF m 211 #[.val (.ref ch), .val (.int xf), .val (.int xt), .val (.int (-1 : Int32)), .val (.int iv), .val (.int ((ff iv.toInt.toNat) &&& (255 : Int32))), .val (.int (2 : Int32)), .val (.int (128 : Int32)), .val (.int (191 : Int32)), .val (.int (0 : Int32)), .val (.int (2 : Int32)), .val (.int ((ff (iv.toInt.toNat + 1)) &&& (255 : Int32)))] [])) tgt
                      refine XS.iload X0.here hx rfl (hb hby d1_211) rfl ?_
                      show Steps p.tables e below (s₁.setTop (mkF m 213 #[.val (.ref ch), .val (.int xf), .val (.int xt), .val (.int (-1 : Int32)), .val (.int iv), .val (.int ((ff iv.toInt.toNat) &&& (255 : Int32))), .val (.int (2 : Int32)), .val (.int (128 : Int32)), .val (.int (191 : Int32)), .val (.int (0 : Int32)), .val (.int (2 : Int32)), .val (.int ((ff (iv.toInt.toNat + 1)) &&& (255 : Int32)))] [(.int (0 : Int32))])) tgt
                      refine XS.ifYes X0.here hx rfl (pc0 := 213) (pc' := 293) rfl (hb hby d1_213) rfl ((if0 _ _).trans (teq (by decide : (0 : Int32) = (0 : Int32))).1) (by decide) (by decide) ?_
                      show Steps p.tables e below (s₁.setTop (mkF m 293 #[.val (.ref ch), .val (.int xf), .val (.int xt), .val (.int (-1 : Int32)), .val (.int iv), .val (.int ((ff iv.toInt.toNat) &&& (255 : Int32))), .val (.int (2 : Int32)), .val (.int (128 : Int32)), .val (.int (191 : Int32)), .val (.int (0 : Int32)), .val (.int (2 : Int32)), .val (.int ((ff (iv.toInt.toNat + 1)) &&& (255 : Int32)))] [])) tgt
                      refine XS.iload X0.here hx rfl (hb hby d1_293) rfl ?_
                      show Steps p.tables e below (s₁.setTop (mkF m 295 #[.val (.ref ch), .val (.int xf), .val (.int xt), .val (.int (-1 : Int32)), .val (.int iv), .val (.int ((ff iv.toInt.toNat) &&& (255 : Int32))), .val (.int (2 : Int32)), .val (.int (128 : Int32)), .val (.int (191 : Int32)), .val (.int (0 : Int32)), .val (.int (2 : Int32)), .val (.int ((ff (iv.toInt.toNat + 1)) &&& (255 : Int32)))] [(.int (0 : Int32))])) tgt
                      refine XS.ifYes X0.here hx rfl (pc0 := 295) (pc' := 308) rfl (hb hby d1_295) rfl ((if0 _ _).trans (teq (by decide : (0 : Int32) = (0 : Int32))).1) (by decide) (by decide) ?_
                      show Steps p.tables e below (s₁.setTop (mkF m 308 #[.val (.ref ch), .val (.int xf), .val (.int xt), .val (.int (-1 : Int32)), .val (.int iv), .val (.int ((ff iv.toInt.toNat) &&& (255 : Int32))), .val (.int (2 : Int32)), .val (.int (128 : Int32)), .val (.int (191 : Int32)), .val (.int (0 : Int32)), .val (.int (2 : Int32)), .val (.int ((ff (iv.toInt.toNat + 1)) &&& (255 : Int32)))] [])) tgt
                      refine XS.iload X0.here hx rfl (hb hby d1_308) rfl ?_
                      show Steps p.tables e below (s₁.setTop (mkF m 310 #[.val (.ref ch), .val (.int xf), .val (.int xt), .val (.int (-1 : Int32)), .val (.int iv), .val (.int ((ff iv.toInt.toNat) &&& (255 : Int32))), .val (.int (2 : Int32)), .val (.int (128 : Int32)), .val (.int (191 : Int32)), .val (.int (0 : Int32)), .val (.int (2 : Int32)), .val (.int ((ff (iv.toInt.toNat + 1)) &&& (255 : Int32)))] [(.int iv)])) tgt
                      refine XS.istoreN X0.here hx rfl (hb hby d1_310) rfl (l' := #[.val (.ref ch), .val (.int xf), .val (.int xt), .val (.int iv), .val (.int iv), .val (.int ((ff iv.toInt.toNat) &&& (255 : Int32))), .val (.int (2 : Int32)), .val (.int (128 : Int32)), .val (.int (191 : Int32)), .val (.int (0 : Int32)), .val (.int (2 : Int32)), .val (.int ((ff (iv.toInt.toNat + 1)) &&& (255 : Int32)))]) rfl ?_
                      show Steps p.tables e below (s₁.setTop (mkF m 311 #[.val (.ref ch), .val (.int xf), .val (.int xt), .val (.int iv), .val (.int iv), .val (.int ((ff iv.toInt.toNat) &&& (255 : Int32))), .val (.int (2 : Int32)), .val (.int (128 : Int32)), .val (.int (191 : Int32)), .val (.int (0 : Int32)), .val (.int (2 : Int32)), .val (.int ((ff (iv.toInt.toNat + 1)) &&& (255 : Int32)))] [])) tgt
                      refine XS.goto X0.here hx rfl (pc0 := 311) (pc' := 5) rfl (hb hby d1_311) (by decide) (by decide) ?_
                      exact k
                    refine own_st (V := s₁.setTop (mkF m 315 #[.val (.ref ch), .val (.int xf), .val (.int xt), .val (.int iv), .val (.int iv), .val (.int ((ff iv.toInt.toNat) &&& (255 : Int32))), .val (.int (2 : Int32)), .val (.int (128 : Int32)), .val (.int (191 : Int32)), .val (.int (0 : Int32)), .val (.int (2 : Int32)), .val (.int ((ff (iv.toInt.toNat + 1)) &&& (255 : Int32)))] [(.int iv)])) (fun tgt k => ?_) ?_
                    · show Steps p.tables e below (s₁.setTop (mkF m 5 #[.val (.ref ch), .val (.int xf), .val (.int xt), .val (.int iv), .val (.int iv), .val (.int ((ff iv.toInt.toNat) &&& (255 : Int32))), .val (.int (2 : Int32)), .val (.int (128 : Int32)), .val (.int (191 : Int32)), .val (.int (0 : Int32)), .val (.int (2 : Int32)), .val (.int ((ff (iv.toInt.toNat + 1)) &&& (255 : Int32)))] [])) tgt
                      refine XS.iloadN X0.here hx rfl (hb hby d1_5) rfl ?_
                      show Steps p.tables e below (s₁.setTop (mkF m 6 #[.val (.ref ch), .val (.int xf), .val (.int xt), .val (.int iv), .val (.int iv), .val (.int ((ff iv.toInt.toNat) &&& (255 : Int32))), .val (.int (2 : Int32)), .val (.int (128 : Int32)), .val (.int (191 : Int32)), .val (.int (0 : Int32)), .val (.int (2 : Int32)), .val (.int ((ff (iv.toInt.toNat + 1)) &&& (255 : Int32)))] [(.int iv)])) tgt
                      refine XS.ifYes X0.here hx rfl (pc0 := 6) (pc' := 314) rfl (hb hby d1_6) rfl ((if0 _ _).trans (flt (by rw [own_ilt, show (0 : Int32).toInt = 0 from rfl]; omega)).2.1) (by decide) (by decide) ?_
                      show Steps p.tables e below (s₁.setTop (mkF m 314 #[.val (.ref ch), .val (.int xf), .val (.int xt), .val (.int iv), .val (.int iv), .val (.int ((ff iv.toInt.toNat) &&& (255 : Int32))), .val (.int (2 : Int32)), .val (.int (128 : Int32)), .val (.int (191 : Int32)), .val (.int (0 : Int32)), .val (.int (2 : Int32)), .val (.int ((ff (iv.toInt.toNat + 1)) &&& (255 : Int32)))] [])) tgt
                      refine XS.iloadN X0.here hx rfl (hb hby d1_314) rfl ?_
                      exact k
                    refine own_retI X0 hx hlk Bd.returns (hb hby d1_315) ?_ (by decide) (by decide)
                    show Q1 Z ch xf xt ff fu h0 n0 (some (.int iv)) s₁.heap _
                    rw [e0]
                    refine ⟨?_, N0, rfl⟩
                    exact congrArg (fun q => some (Value.int q)) (by rw [← hE, own_bad hc12 (by unfold own_S own_s4; rw [if_neg hc43, if_neg hc57, if_neg hc65, if_neg hc198, if_neg hc246, if_pos hc253])])
                  · skip
                    refine own_st (V := s₁.setTop (mkF m 290 #[.val (.ref ch), .val (.int xf), .val (.int xt), .val (.int (-1 : Int32)), .val (.int iv), .val (.int ((ff iv.toInt.toNat) &&& (255 : Int32))), .val (.int (2 : Int32)), .val (.int (128 : Int32)), .val (.int (191 : Int32)), .val (.int (1 : Int32)), .val (.int ((1 : Int32) + (1 : Int32))), .val (.int ((ff (iv.toInt.toNat + 1)) &&& (255 : Int32)))] [])) (fun tgt k => ?_) ?_
                    · show Steps p.tables e below (s₁.setTop (mkF m 253 #[.val (.ref ch), .val (.int xf), .val (.int xt), .val (.int (-1 : Int32)), .val (.int iv), .val (.int ((ff iv.toInt.toNat) &&& (255 : Int32))), .val (.int (2 : Int32)), .val (.int (128 : Int32)), .val (.int (191 : Int32)), .val (.int (1 : Int32)), .val (.int (1 : Int32)), .val (.int ((ff (iv.toInt.toNat + 1)) &&& (255 : Int32)))] [(.int (191 : Int32)), (.int ((ff (iv.toInt.toNat + 1)) &&& (255 : Int32)))])) tgt
                      refine XS.icmpNo X0.here hx rfl (hb hby d1_253) rfl (flt hc253).2.2.1 ?_
                      show Steps p.tables e below (s₁.setTop (mkF m 256 #[.val (.ref ch), .val (.int xf), .val (.int xt), .val (.int (-1 : Int32)), .val (.int iv), .val (.int ((ff iv.toInt.toNat) &&& (255 : Int32))), .val (.int (2 : Int32)), .val (.int (128 : Int32)), .val (.int (191 : Int32)), .val (.int (1 : Int32)), .val (.int (1 : Int32)), .val (.int ((ff (iv.toInt.toNat + 1)) &&& (255 : Int32)))] [])) tgt
                      refine XS.iconst X0.here hx rfl (hb hby d1_256) ?_
                      show Steps p.tables e below (s₁.setTop (mkF m 257 #[.val (.ref ch), .val (.int xf), .val (.int xt), .val (.int (-1 : Int32)), .val (.int iv), .val (.int ((ff iv.toInt.toNat) &&& (255 : Int32))), .val (.int (2 : Int32)), .val (.int (128 : Int32)), .val (.int (191 : Int32)), .val (.int (1 : Int32)), .val (.int (1 : Int32)), .val (.int ((ff (iv.toInt.toNat + 1)) &&& (255 : Int32)))] [(.int (1 : Int32))])) tgt
                      refine XS.goto X0.here hx rfl (pc0 := 257) (pc' := 285) rfl (hb hby d1_257) (by decide) (by decide) ?_
                      show Steps p.tables e below (s₁.setTop (mkF m 285 #[.val (.ref ch), .val (.int xf), .val (.int xt), .val (.int (-1 : Int32)), .val (.int iv), .val (.int ((ff iv.toInt.toNat) &&& (255 : Int32))), .val (.int (2 : Int32)), .val (.int (128 : Int32)), .val (.int (191 : Int32)), .val (.int (1 : Int32)), .val (.int (1 : Int32)), .val (.int ((ff (iv.toInt.toNat + 1)) &&& (255 : Int32)))] [(.int (1 : Int32))])) tgt
                      refine XS.istore X0.here hx rfl (hb hby d1_285) rfl (l' := #[.val (.ref ch), .val (.int xf), .val (.int xt), .val (.int (-1 : Int32)), .val (.int iv), .val (.int ((ff iv.toInt.toNat) &&& (255 : Int32))), .val (.int (2 : Int32)), .val (.int (128 : Int32)), .val (.int (191 : Int32)), .val (.int (1 : Int32)), .val (.int (1 : Int32)), .val (.int ((ff (iv.toInt.toNat + 1)) &&& (255 : Int32)))]) rfl ?_
                      show Steps p.tables e below (s₁.setTop (mkF m 287 #[.val (.ref ch), .val (.int xf), .val (.int xt), .val (.int (-1 : Int32)), .val (.int iv), .val (.int ((ff iv.toInt.toNat) &&& (255 : Int32))), .val (.int (2 : Int32)), .val (.int (128 : Int32)), .val (.int (191 : Int32)), .val (.int (1 : Int32)), .val (.int (1 : Int32)), .val (.int ((ff (iv.toInt.toNat + 1)) &&& (255 : Int32)))] [])) tgt
                      refine XS.iinc X0.here hx rfl (hb hby d1_287) rfl (l' := #[.val (.ref ch), .val (.int xf), .val (.int xt), .val (.int (-1 : Int32)), .val (.int iv), .val (.int ((ff iv.toInt.toNat) &&& (255 : Int32))), .val (.int (2 : Int32)), .val (.int (128 : Int32)), .val (.int (191 : Int32)), .val (.int (1 : Int32)), .val (.int ((1 : Int32) + (1 : Int32))), .val (.int ((ff (iv.toInt.toNat + 1)) &&& (255 : Int32)))]) rfl ?_
                      exact k
                    rw [show ((1 : Int32) + (1 : Int32)) = (2 : Int32) from by decide]
                    refine own_st (V := s₁.setTop (mkF m 5 #[.val (.ref ch), .val (.int xf), .val (.int xt), .val (.int (-1 : Int32)), .val (.int (iv + (2 : Int32))), .val (.int ((ff iv.toInt.toNat) &&& (255 : Int32))), .val (.int (2 : Int32)), .val (.int (128 : Int32)), .val (.int (191 : Int32)), .val (.int (1 : Int32)), .val (.int (2 : Int32)), .val (.int ((ff (iv.toInt.toNat + 1)) &&& (255 : Int32)))] [])) (fun tgt k => ?_) ?_
                    · show Steps p.tables e below (s₁.setTop (mkF m 290 #[.val (.ref ch), .val (.int xf), .val (.int xt), .val (.int (-1 : Int32)), .val (.int iv), .val (.int ((ff iv.toInt.toNat) &&& (255 : Int32))), .val (.int (2 : Int32)), .val (.int (128 : Int32)), .val (.int (191 : Int32)), .val (.int (1 : Int32)), .val (.int (2 : Int32)), .val (.int ((ff (iv.toInt.toNat + 1)) &&& (255 : Int32)))] [])) tgt
                      refine XS.goto X0.here hx rfl (pc0 := 290) (pc' := 211) rfl (hb hby d1_290) (by decide) (by decide) ?_
                      show Steps p.tables e below (s₁.setTop (mkF m 211 #[.val (.ref ch), .val (.int xf), .val (.int xt), .val (.int (-1 : Int32)), .val (.int iv), .val (.int ((ff iv.toInt.toNat) &&& (255 : Int32))), .val (.int (2 : Int32)), .val (.int (128 : Int32)), .val (.int (191 : Int32)), .val (.int (1 : Int32)), .val (.int (2 : Int32)), .val (.int ((ff (iv.toInt.toNat + 1)) &&& (255 : Int32)))] [])) tgt
                      refine XS.iload X0.here hx rfl (hb hby d1_211) rfl ?_
                      show Steps p.tables e below (s₁.setTop (mkF m 213 #[.val (.ref ch), .val (.int xf), .val (.int xt), .val (.int (-1 : Int32)), .val (.int iv), .val (.int ((ff iv.toInt.toNat) &&& (255 : Int32))), .val (.int (2 : Int32)), .val (.int (128 : Int32)), .val (.int (191 : Int32)), .val (.int (1 : Int32)), .val (.int (2 : Int32)), .val (.int ((ff (iv.toInt.toNat + 1)) &&& (255 : Int32)))] [(.int (1 : Int32))])) tgt
                      refine XS.ifNo X0.here hx rfl (hb hby d1_213) rfl ((if0 _ _).trans (feq (by decide : ¬ ((1 : Int32) = (0 : Int32)))).1) ?_
                      show Steps p.tables e below (s₁.setTop (mkF m 216 #[.val (.ref ch), .val (.int xf), .val (.int xt), .val (.int (-1 : Int32)), .val (.int iv), .val (.int ((ff iv.toInt.toNat) &&& (255 : Int32))), .val (.int (2 : Int32)), .val (.int (128 : Int32)), .val (.int (191 : Int32)), .val (.int (1 : Int32)), .val (.int (2 : Int32)), .val (.int ((ff (iv.toInt.toNat + 1)) &&& (255 : Int32)))] [])) tgt
                      refine XS.iload X0.here hx rfl (hb hby d1_216) rfl ?_
                      show Steps p.tables e below (s₁.setTop (mkF m 218 #[.val (.ref ch), .val (.int xf), .val (.int xt), .val (.int (-1 : Int32)), .val (.int iv), .val (.int ((ff iv.toInt.toNat) &&& (255 : Int32))), .val (.int (2 : Int32)), .val (.int (128 : Int32)), .val (.int (191 : Int32)), .val (.int (1 : Int32)), .val (.int (2 : Int32)), .val (.int ((ff (iv.toInt.toNat + 1)) &&& (255 : Int32)))] [(.int (2 : Int32))])) tgt
                      refine XS.iload X0.here hx rfl (hb hby d1_218) rfl ?_
                      show Steps p.tables e below (s₁.setTop (mkF m 220 #[.val (.ref ch), .val (.int xf), .val (.int xt), .val (.int (-1 : Int32)), .val (.int iv), .val (.int ((ff iv.toInt.toNat) &&& (255 : Int32))), .val (.int (2 : Int32)), .val (.int (128 : Int32)), .val (.int (191 : Int32)), .val (.int (1 : Int32)), .val (.int (2 : Int32)), .val (.int ((ff (iv.toInt.toNat + 1)) &&& (255 : Int32)))] [(.int (2 : Int32)), (.int (2 : Int32))])) tgt
                      refine XS.icmpYes X0.here hx rfl (pc0 := 220) (pc' := 293) rfl (hb hby d1_220) rfl (flt (by decide : ¬ ((2 : Int32) < (2 : Int32)))).2.1 (by decide) (by decide) ?_
                      show Steps p.tables e below (s₁.setTop (mkF m 293 #[.val (.ref ch), .val (.int xf), .val (.int xt), .val (.int (-1 : Int32)), .val (.int iv), .val (.int ((ff iv.toInt.toNat) &&& (255 : Int32))), .val (.int (2 : Int32)), .val (.int (128 : Int32)), .val (.int (191 : Int32)), .val (.int (1 : Int32)), .val (.int (2 : Int32)), .val (.int ((ff (iv.toInt.toNat + 1)) &&& (255 : Int32)))] [])) tgt
                      refine XS.iload X0.here hx rfl (hb hby d1_293) rfl ?_
                      show Steps p.tables e below (s₁.setTop (mkF m 295 #[.val (.ref ch), .val (.int xf), .val (.int xt), .val (.int (-1 : Int32)), .val (.int iv), .val (.int ((ff iv.toInt.toNat) &&& (255 : Int32))), .val (.int (2 : Int32)), .val (.int (128 : Int32)), .val (.int (191 : Int32)), .val (.int (1 : Int32)), .val (.int (2 : Int32)), .val (.int ((ff (iv.toInt.toNat + 1)) &&& (255 : Int32)))] [(.int (1 : Int32))])) tgt
                      refine XS.ifNo X0.here hx rfl (hb hby d1_295) rfl ((if0 _ _).trans (feq (by decide : ¬ ((1 : Int32) = (0 : Int32)))).1) ?_
                      show Steps p.tables e below (s₁.setTop (mkF m 298 #[.val (.ref ch), .val (.int xf), .val (.int xt), .val (.int (-1 : Int32)), .val (.int iv), .val (.int ((ff iv.toInt.toNat) &&& (255 : Int32))), .val (.int (2 : Int32)), .val (.int (128 : Int32)), .val (.int (191 : Int32)), .val (.int (1 : Int32)), .val (.int (2 : Int32)), .val (.int ((ff (iv.toInt.toNat + 1)) &&& (255 : Int32)))] [])) tgt
                      refine XS.iload X0.here hx rfl (hb hby d1_298) rfl ?_
                      show Steps p.tables e below (s₁.setTop (mkF m 300 #[.val (.ref ch), .val (.int xf), .val (.int xt), .val (.int (-1 : Int32)), .val (.int iv), .val (.int ((ff iv.toInt.toNat) &&& (255 : Int32))), .val (.int (2 : Int32)), .val (.int (128 : Int32)), .val (.int (191 : Int32)), .val (.int (1 : Int32)), .val (.int (2 : Int32)), .val (.int ((ff (iv.toInt.toNat + 1)) &&& (255 : Int32)))] [(.int iv)])) tgt
                      refine XS.iload X0.here hx rfl (hb hby d1_300) rfl ?_
                      show Steps p.tables e below (s₁.setTop (mkF m 302 #[.val (.ref ch), .val (.int xf), .val (.int xt), .val (.int (-1 : Int32)), .val (.int iv), .val (.int ((ff iv.toInt.toNat) &&& (255 : Int32))), .val (.int (2 : Int32)), .val (.int (128 : Int32)), .val (.int (191 : Int32)), .val (.int (1 : Int32)), .val (.int (2 : Int32)), .val (.int ((ff (iv.toInt.toNat + 1)) &&& (255 : Int32)))] [(.int (2 : Int32)), (.int iv)])) tgt
                      refine XS.iadd X0.here hx rfl (hb hby d1_302) rfl ?_
                      show Steps p.tables e below (s₁.setTop (mkF m 303 #[.val (.ref ch), .val (.int xf), .val (.int xt), .val (.int (-1 : Int32)), .val (.int iv), .val (.int ((ff iv.toInt.toNat) &&& (255 : Int32))), .val (.int (2 : Int32)), .val (.int (128 : Int32)), .val (.int (191 : Int32)), .val (.int (1 : Int32)), .val (.int (2 : Int32)), .val (.int ((ff (iv.toInt.toNat + 1)) &&& (255 : Int32)))] [(.int (iv + (2 : Int32)))])) tgt
                      refine XS.istore X0.here hx rfl (hb hby d1_303) rfl (l' := #[.val (.ref ch), .val (.int xf), .val (.int xt), .val (.int (-1 : Int32)), .val (.int (iv + (2 : Int32))), .val (.int ((ff iv.toInt.toNat) &&& (255 : Int32))), .val (.int (2 : Int32)), .val (.int (128 : Int32)), .val (.int (191 : Int32)), .val (.int (1 : Int32)), .val (.int (2 : Int32)), .val (.int ((ff (iv.toInt.toNat + 1)) &&& (255 : Int32)))]) rfl ?_
                      show Steps p.tables e below (s₁.setTop (mkF m 305 #[.val (.ref ch), .val (.int xf), .val (.int xt), .val (.int (-1 : Int32)), .val (.int (iv + (2 : Int32))), .val (.int ((ff iv.toInt.toNat) &&& (255 : Int32))), .val (.int (2 : Int32)), .val (.int (128 : Int32)), .val (.int (191 : Int32)), .val (.int (1 : Int32)), .val (.int (2 : Int32)), .val (.int ((ff (iv.toInt.toNat + 1)) &&& (255 : Int32)))] [])) tgt
                      refine XS.goto X0.here hx rfl (pc0 := 305) (pc' := 311) rfl (hb hby d1_305) (by decide) (by decide) ?_
                      show Steps p.tables e below (s₁.setTop (mkF m 311 #[.val (.ref ch), .val (.int xf), .val (.int xt), .val (.int (-1 : Int32)), .val (.int (iv + (2 : Int32))), .val (.int ((ff iv.toInt.toNat) &&& (255 : Int32))), .val (.int (2 : Int32)), .val (.int (128 : Int32)), .val (.int (191 : Int32)), .val (.int (1 : Int32)), .val (.int (2 : Int32)), .val (.int ((ff (iv.toInt.toNat + 1)) &&& (255 : Int32)))] [])) tgt
                      refine XS.goto X0.here hx rfl (pc0 := 311) (pc' := 5) rfl (hb hby d1_311) (by decide) (by decide) ?_
                      exact k
                    have hS : own_S ff iv xt = (2 : Int32) := by unfold own_S own_s4; rw [if_neg hc43, if_neg hc57, if_neg hc65, if_neg hc198, if_neg hc246, if_neg hc253]
                    exact ih (iv + (2 : Int32)) _ _ _ _ _ _ _ (One.val rfl) (One.val rfl) (One.val rfl) (One.val rfl) (One.val rfl) (One.val rfl) (One.val rfl) (by rw [a2]; omega) (by rw [a2]; have := hfit; omega) (by rw [a2]; omega) ((own_good hc12 hS (by decide)).symm.trans hE)
      · skip
        refine own_st (V := s₁.setTop (mkF m 315 #[.val (.ref ch), .val (.int xf), .val (.int xt), .val (.int (-1 : Int32)), .val (.int iv), s5, s6, s7, s8, s9, s10, s11] [(.int (-1 : Int32))])) (fun tgt k => ?_) ?_
        · show Steps p.tables e below (s₁.setTop (mkF m 12 #[.val (.ref ch), .val (.int xf), .val (.int xt), .val (.int (-1 : Int32)), .val (.int iv), s5, s6, s7, s8, s9, s10, s11] [(.int xt), (.int iv)])) tgt
          refine XS.icmpYes X0.here hx rfl (pc0 := 12) (pc' := 314) rfl (hb hby d1_12) rfl (flt hc12).2.1 (by decide) (by decide) ?_
          show Steps p.tables e below (s₁.setTop (mkF m 314 #[.val (.ref ch), .val (.int xf), .val (.int xt), .val (.int (-1 : Int32)), .val (.int iv), s5, s6, s7, s8, s9, s10, s11] [])) tgt
          refine XS.iloadN X0.here hx rfl (hb hby d1_314) rfl ?_
          exact k
        refine own_retI X0 hx hlk Bd.returns (hb hby d1_315) ?_ (by decide) (by decide)
        show Q1 Z ch xf xt ff fu h0 n0 (some (.int (-1 : Int32))) s₁.heap _
        rw [e0]
        refine ⟨?_, N0, rfl⟩
        exact congrArg (fun q => some (Value.int q)) (by rw [← hE, own_end hc12])
  exact loop fu xf _ _ _ _ _ _ _ One.u One.u One.u One.u One.u One.u One.u H1 H2 H4 rfl
theorem pn_0 : plainName "com/example/vestwright/vestwright/input/Utf8FirstNotUtf8PinLaw" = true := by first | (simp [plainName, overriddenIn]; done) | decide +kernel
theorem pd_0_0 : parseMethodDescriptor "([BII)I" = some ⟨[(.array .byte), .int, .int], some .int⟩ := by decide +kernel
theorem ef_0 (m : MethodId) (x0 : Int32) (x1 : Int32) (x2 : Int32) : entryFrame m #[(.int x0), (.int x1), (.int x2)] maxLocals = mkF m 0 #[.val (.int x0), .val (.int x1), .val (.int x2), .unset, .unset, .unset, .unset, .unset, .unset, .unset, .unset, .unset, .unset] [] := by first | (simp [entryFrame, mkF, argsToLocals, Value.category, maxLocals]; done) | rfl
def Q0 (Z : State) (xb : Int32) (xf : Int32) (xt : Int32) (h0 : Heap) (n0 : Nat) (v : Option Value) (h : Heap) (L : List Loc) : Prop := v = some (.int (1 : Int32)) ∧ Fr n0 L
set_option maxRecDepth 65536 in
set_option maxHeartbeats 40000000 in
theorem rm0 (l : Launch) (Z : State) (a0 : Array Value) (hw : ∀ d ∈ tables_1, d.before a0 Z = true) (ws : List Jvm.Cond) (xb : Int32) (xf : Int32) (xt : Int32) (h0 : Heap) (n0 : Nat) (Z0 : n0 ≤ h0.size) :
    MetFree l x (head1 (Jvm.Cond.code x code maxLocals ret :: ws) room_1) (fun a U => a = #[(.int xb), (.int xf), (.int xt)] ∧ Z.Warmed39 U.vm ∧ U.heap = h0) (fun _ _ _ _ _ => True) (fun _ U o U' => ∃ v L, o = .returned v ∧ Q0 Z xb xf xt h0 n0 v U'.heap L ∧ FrameEnd U o U' L 16 128) := by
  refine MetFree.of_bodySF (plainFor_of_name pn_0) hisR ?_
  intro p e s m args below meth c s₁ Bd hml0 hP hK
  obtain ⟨rfl, hZ, hh⟩ := hP
  have hx := Bd.exec
  have hby := Bd.bytes
  have hlk : meth.locks = false := BodyLoose.notSynchronized Bd
  have hml : c.maxLocals = 13 := hml0
  have hown : s.vm.findClass "com/example/vestwright/vestwright/input/Utf8FirstNotUtf8PinLaw" = some m.cls := findClass_of_methodNamed Bd.named
  have hnm := (name_of_methodNamed Bd.named Bd.method).1
  have X0 : Stand p l e room_1 s m #[(.int xb), (.int xf), (.int xt)] below meth c s₁ [] 0 0 := Stand.of_body Bd
  have e0 : s₁.heap = h0 := by rw [← hh, Bd.state]; rfl
  have N0 := Fr.nil n0
  show own_Go p e below (own_G s (Q0 Z xb xf xt h0 n0) 16 128) (s₁.setTop (entryFrame m #[(.int xb), (.int xf), (.int xt)] maxLocals))
  refine own_st (fun tgt k => castTop (ef_0 m xb xf xt) k) ?_
  show own_Go p e below _ (s₁.setTop (mkF m 0 #[.val (.int xb), .val (.int xf), .val (.int xt), .unset, .unset, .unset, .unset, .unset, .unset, .unset, .unset, .unset, .unset] []))
  refine own_st (V := s₁.setTop (mkF m 1 #[.val (.int xb), .val (.int xf), .val (.int xt), .unset, .unset, .unset, .unset, .unset, .unset, .unset, .unset, .unset, .unset] [(.int (4 : Int32))])) (fun tgt k => ?_) ?_
  · show Steps p.tables e below (s₁.setTop (mkF m 0 #[.val (.int xb), .val (.int xf), .val (.int xt), .unset, .unset, .unset, .unset, .unset, .unset, .unset, .unset, .unset, .unset] [])) tgt
    refine XS.iconst X0.here hx rfl (hb hby at_0) ?_
    exact k
  obtain ⟨T1, h1, c1, X1, e1, E1, A1, st1⟩ := own_newarr X0 hx hZ (hw _ (List.mem_of_getElem? (i := 0) rfl)) e0 (g := (mkF m 1 #[.val (.int xb), .val (.int xf), .val (.int xt), .unset, .unset, .unset, .unset, .unset, .unset, .unset, .unset, .unset, .unset] [(.int (4 : Int32))])) rfl (hb hby at_1) rfl (k := 4) rfl (cap := 4) (by decide) (by decide) (by decide) (by decide)
  obtain ⟨ba, g1⟩ : ∃ z, z = h0.size := ⟨_, rfl⟩
  rw [← g1] at A1 st1
  have g_ba : n0 ≤ ba := Nat.le_trans Z0 (Nat.le_of_eq g1.symm)
  have A_ba_1 : own_Ai Z h1 ba .byte 4 (fun _ => 0) := own_Ai.new A1
  have Zs1 : n0 ≤ h1.size := Nat.le_trans Z0 E1.1
  refine own_st st1 ?_
  show own_Go p e below _ (T1.setTop (mkF m 3 #[.val (.int xb), .val (.int xf), .val (.int xt), .unset, .unset, .unset, .unset, .unset, .unset, .unset, .unset, .unset, .unset] [(.ref ba)]))
  refine own_st (V := T1.setTop (mkF m 8 #[.val (.int xb), .val (.int xf), .val (.int xt), .val (.ref ba), .unset, .unset, .unset, .unset, .unset, .unset, .unset, .unset, .unset] [(.int (xb.toInt8.toInt32)), (.int (0 : Int32)), (.ref ba)])) (fun tgt k => ?_) ?_
  · show Steps p.tables e below (T1.setTop (mkF m 3 #[.val (.int xb), .val (.int xf), .val (.int xt), .unset, .unset, .unset, .unset, .unset, .unset, .unset, .unset, .unset, .unset] [(.ref ba)])) tgt
    refine XS.astoreN X1.here hx rfl (hb hby at_3) rfl rfl (l' := #[.val (.int xb), .val (.int xf), .val (.int xt), .val (.ref ba), .unset, .unset, .unset, .unset, .unset, .unset, .unset, .unset, .unset]) rfl ?_
    show Steps p.tables e below (T1.setTop (mkF m 4 #[.val (.int xb), .val (.int xf), .val (.int xt), .val (.ref ba), .unset, .unset, .unset, .unset, .unset, .unset, .unset, .unset, .unset] [])) tgt
    refine XS.aloadN X1.here hx rfl (hb hby at_4) rfl rfl ?_
    show Steps p.tables e below (T1.setTop (mkF m 5 #[.val (.int xb), .val (.int xf), .val (.int xt), .val (.ref ba), .unset, .unset, .unset, .unset, .unset, .unset, .unset, .unset, .unset] [(.ref ba)])) tgt
    refine XS.iconst X1.here hx rfl (hb hby at_5) ?_
    show Steps p.tables e below (T1.setTop (mkF m 6 #[.val (.int xb), .val (.int xf), .val (.int xt), .val (.ref ba), .unset, .unset, .unset, .unset, .unset, .unset, .unset, .unset, .unset] [(.int (0 : Int32)), (.ref ba)])) tgt
    refine XS.iloadN X1.here hx rfl (hb hby at_6) rfl ?_
    show Steps p.tables e below (T1.setTop (mkF m 7 #[.val (.int xb), .val (.int xf), .val (.int xt), .val (.ref ba), .unset, .unset, .unset, .unset, .unset, .unset, .unset, .unset, .unset] [(.int xb), (.int (0 : Int32)), (.ref ba)])) tgt
    refine XS.i2b X1.here hx rfl (hb hby at_7) rfl ?_
    exact k
  obtain ⟨T2, h2, X2, e2, W2, A_ba_2, st2⟩ := own_bastore X1 hx hZ e1 A_ba_1 (j := (0 : Int32)) (k := 0) rfl (by decide) (g := (mkF m 8 #[.val (.int xb), .val (.int xf), .val (.int xt), .val (.ref ba), .unset, .unset, .unset, .unset, .unset, .unset, .unset, .unset, .unset] [(.int (xb.toInt8.toInt32)), (.int (0 : Int32)), (.ref ba)])) rfl rfl (hb hby at_8)
  have N2 := Fr.snoc X2 N0 g_ba
  have Zs2 : n0 ≤ h2.size := Nat.le_trans Zs1 (Keep.of_wr W2).1
  refine own_st st2 ?_
  show own_Go p e below _ (T2.setTop (mkF m 9 #[.val (.int xb), .val (.int xf), .val (.int xt), .val (.ref ba), .unset, .unset, .unset, .unset, .unset, .unset, .unset, .unset, .unset] []))
  refine own_st (V := T2.setTop (mkF m 16 #[.val (.int xb), .val (.int xf), .val (.int xt), .val (.ref ba), .unset, .unset, .unset, .unset, .unset, .unset, .unset, .unset, .unset] [(.int (((xb.toUInt32 >>> ((8 : Int32) &&& 31).toUInt32).toInt32).toInt8.toInt32)), (.int (1 : Int32)), (.ref ba)])) (fun tgt k => ?_) ?_
  · show Steps p.tables e below (T2.setTop (mkF m 9 #[.val (.int xb), .val (.int xf), .val (.int xt), .val (.ref ba), .unset, .unset, .unset, .unset, .unset, .unset, .unset, .unset, .unset] [])) tgt
    refine XS.aloadN X2.here hx rfl (hb hby at_9) rfl rfl ?_
    show Steps p.tables e below (T2.setTop (mkF m 10 #[.val (.int xb), .val (.int xf), .val (.int xt), .val (.ref ba), .unset, .unset, .unset, .unset, .unset, .unset, .unset, .unset, .unset] [(.ref ba)])) tgt
    refine XS.iconst X2.here hx rfl (hb hby at_10) ?_
    show Steps p.tables e below (T2.setTop (mkF m 11 #[.val (.int xb), .val (.int xf), .val (.int xt), .val (.ref ba), .unset, .unset, .unset, .unset, .unset, .unset, .unset, .unset, .unset] [(.int (1 : Int32)), (.ref ba)])) tgt
    refine XS.iloadN X2.here hx rfl (hb hby at_11) rfl ?_
    show Steps p.tables e below (T2.setTop (mkF m 12 #[.val (.int xb), .val (.int xf), .val (.int xt), .val (.ref ba), .unset, .unset, .unset, .unset, .unset, .unset, .unset, .unset, .unset] [(.int xb), (.int (1 : Int32)), (.ref ba)])) tgt
    refine XS.bipush X2.here hx rfl (hb hby at_12) ?_
    show Steps p.tables e below (T2.setTop (mkF m 14 #[.val (.int xb), .val (.int xf), .val (.int xt), .val (.ref ba), .unset, .unset, .unset, .unset, .unset, .unset, .unset, .unset, .unset] [(.int (8 : Int32)), (.int xb), (.int (1 : Int32)), (.ref ba)])) tgt
    refine XS.iushr X2.here hx rfl (hb hby at_14) rfl ?_
    show Steps p.tables e below (T2.setTop (mkF m 15 #[.val (.int xb), .val (.int xf), .val (.int xt), .val (.ref ba), .unset, .unset, .unset, .unset, .unset, .unset, .unset, .unset, .unset] [(.int ((xb.toUInt32 >>> ((8 : Int32) &&& 31).toUInt32).toInt32)), (.int (1 : Int32)), (.ref ba)])) tgt
    refine XS.i2b X2.here hx rfl (hb hby at_15) rfl ?_
    exact k
  obtain ⟨T3, h3, X3, e3, W3, A_ba_3, st3⟩ := own_bastore X2 hx hZ e2 A_ba_2 (j := (1 : Int32)) (k := 1) rfl (by decide) (g := (mkF m 16 #[.val (.int xb), .val (.int xf), .val (.int xt), .val (.ref ba), .unset, .unset, .unset, .unset, .unset, .unset, .unset, .unset, .unset] [(.int (((xb.toUInt32 >>> ((8 : Int32) &&& 31).toUInt32).toInt32).toInt8.toInt32)), (.int (1 : Int32)), (.ref ba)])) rfl rfl (hb hby at_16)
  have N3 := Fr.snoc X3 N2 g_ba
  have Zs3 : n0 ≤ h3.size := Nat.le_trans Zs2 (Keep.of_wr W3).1
  refine own_st st3 ?_
  show own_Go p e below _ (T3.setTop (mkF m 17 #[.val (.int xb), .val (.int xf), .val (.int xt), .val (.ref ba), .unset, .unset, .unset, .unset, .unset, .unset, .unset, .unset, .unset] []))
  refine own_st (V := T3.setTop (mkF m 24 #[.val (.int xb), .val (.int xf), .val (.int xt), .val (.ref ba), .unset, .unset, .unset, .unset, .unset, .unset, .unset, .unset, .unset] [(.int (((xb.toUInt32 >>> ((16 : Int32) &&& 31).toUInt32).toInt32).toInt8.toInt32)), (.int (2 : Int32)), (.ref ba)])) (fun tgt k => ?_) ?_
  · show Steps p.tables e below (T3.setTop (mkF m 17 #[.val (.int xb), .val (.int xf), .val (.int xt), .val (.ref ba), .unset, .unset, .unset, .unset, .unset, .unset, .unset, .unset, .unset] [])) tgt
    refine XS.aloadN X3.here hx rfl (hb hby at_17) rfl rfl ?_
    show Steps p.tables e below (T3.setTop (mkF m 18 #[.val (.int xb), .val (.int xf), .val (.int xt), .val (.ref ba), .unset, .unset, .unset, .unset, .unset, .unset, .unset, .unset, .unset] [(.ref ba)])) tgt
    refine XS.iconst X3.here hx rfl (hb hby at_18) ?_
    show Steps p.tables e below (T3.setTop (mkF m 19 #[.val (.int xb), .val (.int xf), .val (.int xt), .val (.ref ba), .unset, .unset, .unset, .unset, .unset, .unset, .unset, .unset, .unset] [(.int (2 : Int32)), (.ref ba)])) tgt
    refine XS.iloadN X3.here hx rfl (hb hby at_19) rfl ?_
    show Steps p.tables e below (T3.setTop (mkF m 20 #[.val (.int xb), .val (.int xf), .val (.int xt), .val (.ref ba), .unset, .unset, .unset, .unset, .unset, .unset, .unset, .unset, .unset] [(.int xb), (.int (2 : Int32)), (.ref ba)])) tgt
    refine XS.bipush X3.here hx rfl (hb hby at_20) ?_
    show Steps p.tables e below (T3.setTop (mkF m 22 #[.val (.int xb), .val (.int xf), .val (.int xt), .val (.ref ba), .unset, .unset, .unset, .unset, .unset, .unset, .unset, .unset, .unset] [(.int (16 : Int32)), (.int xb), (.int (2 : Int32)), (.ref ba)])) tgt
    refine XS.iushr X3.here hx rfl (hb hby at_22) rfl ?_
    show Steps p.tables e below (T3.setTop (mkF m 23 #[.val (.int xb), .val (.int xf), .val (.int xt), .val (.ref ba), .unset, .unset, .unset, .unset, .unset, .unset, .unset, .unset, .unset] [(.int ((xb.toUInt32 >>> ((16 : Int32) &&& 31).toUInt32).toInt32)), (.int (2 : Int32)), (.ref ba)])) tgt
    refine XS.i2b X3.here hx rfl (hb hby at_23) rfl ?_
    exact k
  obtain ⟨T4, h4, X4, e4, W4, A_ba_4, st4⟩ := own_bastore X3 hx hZ e3 A_ba_3 (j := (2 : Int32)) (k := 2) rfl (by decide) (g := (mkF m 24 #[.val (.int xb), .val (.int xf), .val (.int xt), .val (.ref ba), .unset, .unset, .unset, .unset, .unset, .unset, .unset, .unset, .unset] [(.int (((xb.toUInt32 >>> ((16 : Int32) &&& 31).toUInt32).toInt32).toInt8.toInt32)), (.int (2 : Int32)), (.ref ba)])) rfl rfl (hb hby at_24)
  have N4 := Fr.snoc X4 N3 g_ba
  have Zs4 : n0 ≤ h4.size := Nat.le_trans Zs3 (Keep.of_wr W4).1
  refine own_st st4 ?_
  show own_Go p e below _ (T4.setTop (mkF m 25 #[.val (.int xb), .val (.int xf), .val (.int xt), .val (.ref ba), .unset, .unset, .unset, .unset, .unset, .unset, .unset, .unset, .unset] []))
  refine own_st (V := T4.setTop (mkF m 32 #[.val (.int xb), .val (.int xf), .val (.int xt), .val (.ref ba), .unset, .unset, .unset, .unset, .unset, .unset, .unset, .unset, .unset] [(.int (((xb.toUInt32 >>> ((24 : Int32) &&& 31).toUInt32).toInt32).toInt8.toInt32)), (.int (3 : Int32)), (.ref ba)])) (fun tgt k => ?_) ?_
  · show Steps p.tables e below (T4.setTop (mkF m 25 #[.val (.int xb), .val (.int xf), .val (.int xt), .val (.ref ba), .unset, .unset, .unset, .unset, .unset, .unset, .unset, .unset, .unset] [])) tgt
    refine XS.aloadN X4.here hx rfl (hb hby at_25) rfl rfl ?_
    show Steps p.tables e below (T4.setTop (mkF m 26 #[.val (.int xb), .val (.int xf), .val (.int xt), .val (.ref ba), .unset, .unset, .unset, .unset, .unset, .unset, .unset, .unset, .unset] [(.ref ba)])) tgt
    refine XS.iconst X4.here hx rfl (hb hby at_26) ?_
    show Steps p.tables e below (T4.setTop (mkF m 27 #[.val (.int xb), .val (.int xf), .val (.int xt), .val (.ref ba), .unset, .unset, .unset, .unset, .unset, .unset, .unset, .unset, .unset] [(.int (3 : Int32)), (.ref ba)])) tgt
    refine XS.iloadN X4.here hx rfl (hb hby at_27) rfl ?_
    show Steps p.tables e below (T4.setTop (mkF m 28 #[.val (.int xb), .val (.int xf), .val (.int xt), .val (.ref ba), .unset, .unset, .unset, .unset, .unset, .unset, .unset, .unset, .unset] [(.int xb), (.int (3 : Int32)), (.ref ba)])) tgt
    refine XS.bipush X4.here hx rfl (hb hby at_28) ?_
    show Steps p.tables e below (T4.setTop (mkF m 30 #[.val (.int xb), .val (.int xf), .val (.int xt), .val (.ref ba), .unset, .unset, .unset, .unset, .unset, .unset, .unset, .unset, .unset] [(.int (24 : Int32)), (.int xb), (.int (3 : Int32)), (.ref ba)])) tgt
    refine XS.iushr X4.here hx rfl (hb hby at_30) rfl ?_
    show Steps p.tables e below (T4.setTop (mkF m 31 #[.val (.int xb), .val (.int xf), .val (.int xt), .val (.ref ba), .unset, .unset, .unset, .unset, .unset, .unset, .unset, .unset, .unset] [(.int ((xb.toUInt32 >>> ((24 : Int32) &&& 31).toUInt32).toInt32)), (.int (3 : Int32)), (.ref ba)])) tgt
    refine XS.i2b X4.here hx rfl (hb hby at_31) rfl ?_
    exact k
  obtain ⟨T5, h5, X5, e5, W5, A_ba_5, st5⟩ := own_bastore X4 hx hZ e4 A_ba_4 (j := (3 : Int32)) (k := 3) rfl (by decide) (g := (mkF m 32 #[.val (.int xb), .val (.int xf), .val (.int xt), .val (.ref ba), .unset, .unset, .unset, .unset, .unset, .unset, .unset, .unset, .unset] [(.int (((xb.toUInt32 >>> ((24 : Int32) &&& 31).toUInt32).toInt32).toInt8.toInt32)), (.int (3 : Int32)), (.ref ba)])) rfl rfl (hb hby at_32)
  have N5 := Fr.snoc X5 N4 g_ba
  have Zs5 : n0 ≤ h5.size := Nat.le_trans Zs4 (Keep.of_wr W5).1
  refine own_st st5 ?_
  show own_Go p e below _ (T5.setTop (mkF m 33 #[.val (.int xb), .val (.int xf), .val (.int xt), .val (.ref ba), .unset, .unset, .unset, .unset, .unset, .unset, .unset, .unset, .unset] []))
  obtain ⟨ef, hef⟩ : ∃ f : Nat → Int32, f = (own_up (own_up (own_up (own_up (fun _ => 0) 0 (xb.toInt8.toInt32).toInt8.toInt32) 1 (((xb.toUInt32 >>> ((8 : Int32) &&& 31).toUInt32).toInt32).toInt8.toInt32).toInt8.toInt32) 2 (((xb.toUInt32 >>> ((16 : Int32) &&& 31).toUInt32).toInt32).toInt8.toInt32).toInt8.toInt32) 3 (((xb.toUInt32 >>> ((24 : Int32) &&& 31).toUInt32).toInt32).toInt8.toInt32).toInt8.toInt32) := ⟨_, rfl⟩
  have Ag_ba_6 := A_ba_5
  rw [← hef] at Ag_ba_6
  refine own_st (V := T5.setTop (mkF m 41 #[.val (.int xb), .val (.int xf), .val (.int xt), .val (.ref ba), .val (.int ((xf &&& (2147483647 : Int32)) % (5 : Int32))), .unset, .unset, .unset, .unset, .unset, .unset, .unset, .unset] [])) (fun tgt k => ?_) ?_
  · show Steps p.tables e below (T5.setTop (mkF m 33 #[.val (.int xb), .val (.int xf), .val (.int xt), .val (.ref ba), .unset, .unset, .unset, .unset, .unset, .unset, .unset, .unset, .unset] [])) tgt
    refine XS.iloadN X5.here hx rfl (hb hby at_33) rfl ?_
    show Steps p.tables e below (T5.setTop (mkF m 34 #[.val (.int xb), .val (.int xf), .val (.int xt), .val (.ref ba), .unset, .unset, .unset, .unset, .unset, .unset, .unset, .unset, .unset] [(.int xf)])) tgt
    refine X5.ldcInt hx hown (mvT hZ (hw _ (List.mem_of_getElem? (i := 1) rfl))) (g := (mkF m 34 #[.val (.int xb), .val (.int xf), .val (.int xt), .val (.ref ba), .unset, .unset, .unset, .unset, .unset, .unset, .unset, .unset, .unset] [(.int xf)])) rfl (hb hby at_34) _ ?_
    show Steps p.tables e below (T5.setTop (mkF m 36 #[.val (.int xb), .val (.int xf), .val (.int xt), .val (.ref ba), .unset, .unset, .unset, .unset, .unset, .unset, .unset, .unset, .unset] [(.int (2147483647 : Int32)), (.int xf)])) tgt
    refine XS.iand X5.here hx rfl (hb hby at_36) rfl ?_
    show Steps p.tables e below (T5.setTop (mkF m 37 #[.val (.int xb), .val (.int xf), .val (.int xt), .val (.ref ba), .unset, .unset, .unset, .unset, .unset, .unset, .unset, .unset, .unset] [(.int (xf &&& (2147483647 : Int32)))])) tgt
    refine XS.iconst X5.here hx rfl (hb hby at_37) ?_
    show Steps p.tables e below (T5.setTop (mkF m 38 #[.val (.int xb), .val (.int xf), .val (.int xt), .val (.ref ba), .unset, .unset, .unset, .unset, .unset, .unset, .unset, .unset, .unset] [(.int (5 : Int32)), (.int (xf &&& (2147483647 : Int32)))])) tgt
    refine iremM X5 hx rfl (hb hby at_38) rfl (by decide) ?_
    show Steps p.tables e below (T5.setTop (mkF m 39 #[.val (.int xb), .val (.int xf), .val (.int xt), .val (.ref ba), .unset, .unset, .unset, .unset, .unset, .unset, .unset, .unset, .unset] [(.int ((xf &&& (2147483647 : Int32)) % (5 : Int32)))])) tgt
    refine XS.istore X5.here hx rfl (hb hby at_39) rfl (l' := #[.val (.int xb), .val (.int xf), .val (.int xt), .val (.ref ba), .val (.int ((xf &&& (2147483647 : Int32)) % (5 : Int32))), .unset, .unset, .unset, .unset, .unset, .unset, .unset, .unset]) rfl ?_
    exact k
  obtain ⟨fv, hfv⟩ : ∃ z : Int32, z = ((xf &&& (2147483647 : Int32)) % (5 : Int32)) := ⟨_, rfl⟩
  rw [← hfv]
  have hf0 : 0 ≤ fv.toInt ∧ fv.toInt ≤ 4 := by rw [hfv]; exact own_from xf
  refine own_st (V := T5.setTop (mkF m 55 #[.val (.int xb), .val (.int xf), .val (.int xt), .val (.ref ba), .val (.int fv), .val (.int (fv + ((xt &&& (2147483647 : Int32)) % ((5 : Int32) - fv)))), .unset, .unset, .unset, .unset, .unset, .unset, .unset] [])) (fun tgt k => ?_) ?_
  · show Steps p.tables e below (T5.setTop (mkF m 41 #[.val (.int xb), .val (.int xf), .val (.int xt), .val (.ref ba), .val (.int fv), .unset, .unset, .unset, .unset, .unset, .unset, .unset, .unset] [])) tgt
    refine XS.iload X5.here hx rfl (hb hby at_41) rfl ?_
    show Steps p.tables e below (T5.setTop (mkF m 43 #[.val (.int xb), .val (.int xf), .val (.int xt), .val (.ref ba), .val (.int fv), .unset, .unset, .unset, .unset, .unset, .unset, .unset, .unset] [(.int fv)])) tgt
    refine XS.iloadN X5.here hx rfl (hb hby at_43) rfl ?_
    show Steps p.tables e below (T5.setTop (mkF m 44 #[.val (.int xb), .val (.int xf), .val (.int xt), .val (.ref ba), .val (.int fv), .unset, .unset, .unset, .unset, .unset, .unset, .unset, .unset] [(.int xt), (.int fv)])) tgt
    refine X5.ldcInt hx hown (mvT hZ (hw _ (List.mem_of_getElem? (i := 1) rfl))) (g := (mkF m 44 #[.val (.int xb), .val (.int xf), .val (.int xt), .val (.ref ba), .val (.int fv), .unset, .unset, .unset, .unset, .unset, .unset, .unset, .unset] [(.int xt), (.int fv)])) rfl (hb hby at_44) _ ?_
    show Steps p.tables e below (T5.setTop (mkF m 46 #[.val (.int xb), .val (.int xf), .val (.int xt), .val (.ref ba), .val (.int fv), .unset, .unset, .unset, .unset, .unset, .unset, .unset, .unset] [(.int (2147483647 : Int32)), (.int xt), (.int fv)])) tgt
    refine XS.iand X5.here hx rfl (hb hby at_46) rfl ?_
    show Steps p.tables e below (T5.setTop (mkF m 47 #[.val (.int xb), .val (.int xf), .val (.int xt), .val (.ref ba), .val (.int fv), .unset, .unset, .unset, .unset, .unset, .unset, .unset, .unset] [(.int (xt &&& (2147483647 : Int32))), (.int fv)])) tgt
    refine XS.iconst X5.here hx rfl (hb hby at_47) ?_
    show Steps p.tables e below (T5.setTop (mkF m 48 #[.val (.int xb), .val (.int xf), .val (.int xt), .val (.ref ba), .val (.int fv), .unset, .unset, .unset, .unset, .unset, .unset, .unset, .unset] [(.int (5 : Int32)), (.int (xt &&& (2147483647 : Int32))), (.int fv)])) tgt
    refine XS.iload X5.here hx rfl (hb hby at_48) rfl ?_
    show Steps p.tables e below (T5.setTop (mkF m 50 #[.val (.int xb), .val (.int xf), .val (.int xt), .val (.ref ba), .val (.int fv), .unset, .unset, .unset, .unset, .unset, .unset, .unset, .unset] [(.int fv), (.int (5 : Int32)), (.int (xt &&& (2147483647 : Int32))), (.int fv)])) tgt
    refine XS.isub X5.here hx rfl (hb hby at_50) rfl ?_
    show Steps p.tables e below (T5.setTop (mkF m 51 #[.val (.int xb), .val (.int xf), .val (.int xt), .val (.ref ba), .val (.int fv), .unset, .unset, .unset, .unset, .unset, .unset, .unset, .unset] [(.int ((5 : Int32) - fv)), (.int (xt &&& (2147483647 : Int32))), (.int fv)])) tgt
    refine iremM X5 hx rfl (hb hby at_51) rfl (own_tonz hf0) ?_
    show Steps p.tables e below (T5.setTop (mkF m 52 #[.val (.int xb), .val (.int xf), .val (.int xt), .val (.ref ba), .val (.int fv), .unset, .unset, .unset, .unset, .unset, .unset, .unset, .unset] [(.int ((xt &&& (2147483647 : Int32)) % ((5 : Int32) - fv))), (.int fv)])) tgt
    refine XS.iadd X5.here hx rfl (hb hby at_52) rfl ?_
    show Steps p.tables e below (T5.setTop (mkF m 53 #[.val (.int xb), .val (.int xf), .val (.int xt), .val (.ref ba), .val (.int fv), .unset, .unset, .unset, .unset, .unset, .unset, .unset, .unset] [(.int (fv + ((xt &&& (2147483647 : Int32)) % ((5 : Int32) - fv))))])) tgt
    refine XS.istore X5.here hx rfl (hb hby at_53) rfl (l' := #[.val (.int xb), .val (.int xf), .val (.int xt), .val (.ref ba), .val (.int fv), .val (.int (fv + ((xt &&& (2147483647 : Int32)) % ((5 : Int32) - fv)))), .unset, .unset, .unset, .unset, .unset, .unset, .unset]) rfl ?_
    exact k
  obtain ⟨tv, htv⟩ : ∃ z : Int32, z = (fv + ((xt &&& (2147483647 : Int32)) % ((5 : Int32) - fv))) := ⟨_, rfl⟩
  rw [← htv]
  have ht0 : fv.toInt ≤ tv.toInt ∧ tv.toInt ≤ 4 := by rw [htv]; exact own_to fv xt hf0
  refine own_st (V := T5.setTop (mkF m 60 #[.val (.int xb), .val (.int xf), .val (.int xt), .val (.ref ba), .val (.int fv), .val (.int tv), .unset, .unset, .unset, .unset, .unset, .unset, .unset] [(.int tv), (.int fv), (.ref ba)])) (fun tgt k => ?_) ?_
  · show Steps p.tables e below (T5.setTop (mkF m 55 #[.val (.int xb), .val (.int xf), .val (.int xt), .val (.ref ba), .val (.int fv), .val (.int tv), .unset, .unset, .unset, .unset, .unset, .unset, .unset] [])) tgt
    refine XS.aloadN X5.here hx rfl (hb hby at_55) rfl rfl ?_
    show Steps p.tables e below (T5.setTop (mkF m 56 #[.val (.int xb), .val (.int xf), .val (.int xt), .val (.ref ba), .val (.int fv), .val (.int tv), .unset, .unset, .unset, .unset, .unset, .unset, .unset] [(.ref ba)])) tgt
    refine XS.iload X5.here hx rfl (hb hby at_56) rfl ?_
    show Steps p.tables e below (T5.setTop (mkF m 58 #[.val (.int xb), .val (.int xf), .val (.int xt), .val (.ref ba), .val (.int fv), .val (.int tv), .unset, .unset, .unset, .unset, .unset, .unset, .unset] [(.int fv), (.ref ba)])) tgt
    refine XS.iload X5.here hx rfl (hb hby at_58) rfl ?_
    exact k
  obtain ⟨v7, _, ⟨T7, L7, k7, n7⟩, -, Xc7, ⟨Lc7, hQ7, l7, y7, z7⟩, st7⟩ := Jvm.LawKit.callS X5 hx (y := (⟨"com/example/vestwright/vestwright/input/Utf8", "firstNotUtf8", "([BII)I"⟩ : MethodName)) hown (mvT hZ (hw _ (List.mem_of_getElem? (i := 2) rfl))) (mvT hZ (hw _ (List.mem_of_getElem? (i := 3) rfl))) (mvT hZ (hw _ (List.mem_of_getElem? (i := 4) rfl))) (mvT hZ (hw _ (List.mem_of_getElem? (i := 5) rfl))) (by decide) (backOf (W := 0) (rm1 l Z a0 hw [] ba fv tv ef 5 h5 n0 Zs5 Ag_ba_6 hf0.1 ht0.1 ht0.2 (by omega)) hZ (hw _ (List.mem_of_getElem? (i := 5) rfl)) (hw _ (List.mem_of_getElem? (i := 4) rfl)) (by decide) (by decide)) (g := (mkF m 60 #[.val (.int xb), .val (.int xf), .val (.int xt), .val (.ref ba), .val (.int fv), .val (.int tv), .unset, .unset, .unset, .unset, .unset, .unset, .unset] [(.int tv), (.int fv), (.ref ba)])) rfl (by rw [hml]; rfl) (argsL := [(.ref ba), (.int fv), (.int tv)]) (rest := []) (lenOf pd_0_0 rfl) rfl (by show 2 * 0 + _ ≤ _; exact Nat.le_of_eq rfl) (hb hby at_60) (fun _ _ => ⟨rfl, e5, (by decide : 1 + 0 ≤ _), (by decide : 4 + 0 ≤ _)⟩)
  dsimp only [Pt.U, Pt.locs, Pt.cells, Pt.slots] at Xc7 l7 y7 z7 st7 hQ7
  have X7 := own_cast Xc7 l7 y7 z7
  obtain ⟨ev7, N7q, K7⟩ := hQ7
  rw [ev7] at st7
  have N7 := Fr.app N5 N7q
  refine own_st st7 ?_
  show own_Go p e below _ (T7.setTop (mkF m 63 #[.val (.int xb), .val (.int xf), .val (.int xt), .val (.ref ba), .val (.int fv), .val (.int tv), .unset, .unset, .unset, .unset, .unset, .unset, .unset] [(.int (own_res ef tv 5 fv))]))
  refine own_st (V := T7.setTop (mkF m 69 #[.val (.int xb), .val (.int xf), .val (.int xt), .val (.ref ba), .val (.int fv), .val (.int tv), .val (.int (own_res ef tv 5 fv)), .unset, .unset, .unset, .unset, .unset, .unset] [(.int tv), (.int fv)])) (fun tgt k => ?_) ?_
  · show Steps p.tables e below (T7.setTop (mkF m 63 #[.val (.int xb), .val (.int xf), .val (.int xt), .val (.ref ba), .val (.int fv), .val (.int tv), .unset, .unset, .unset, .unset, .unset, .unset, .unset] [(.int (own_res ef tv 5 fv))])) tgt
    refine XS.istore X7.here hx rfl (hb hby at_63) rfl (l' := #[.val (.int xb), .val (.int xf), .val (.int xt), .val (.ref ba), .val (.int fv), .val (.int tv), .val (.int (own_res ef tv 5 fv)), .unset, .unset, .unset, .unset, .unset, .unset]) rfl ?_
    show Steps p.tables e below (T7.setTop (mkF m 65 #[.val (.int xb), .val (.int xf), .val (.int xt), .val (.ref ba), .val (.int fv), .val (.int tv), .val (.int (own_res ef tv 5 fv)), .unset, .unset, .unset, .unset, .unset, .unset] [])) tgt
    refine XS.iload X7.here hx rfl (hb hby at_65) rfl ?_
    show Steps p.tables e below (T7.setTop (mkF m 67 #[.val (.int xb), .val (.int xf), .val (.int xt), .val (.ref ba), .val (.int fv), .val (.int tv), .val (.int (own_res ef tv 5 fv)), .unset, .unset, .unset, .unset, .unset, .unset] [(.int fv)])) tgt
    refine XS.iload X7.here hx rfl (hb hby at_67) rfl ?_
    exact k
  by_cases hc69 : fv = tv
  · skip
    refine own_st (V := T7.setTop (mkF m 83 #[.val (.int xb), .val (.int xf), .val (.int xt), .val (.ref ba), .val (.int fv), .val (.int tv), .val (.int (own_res ef tv 5 fv)), .unset, .unset, .unset, .unset, .unset, .unset] [(.int (1 : Int32))])) (fun tgt k => ?_) ?_
    · show Steps p.tables e below (T7.setTop (mkF m 69 #[.val (.int xb), .val (.int xf), .val (.int xt), .val (.ref ba), .val (.int fv), .val (.int tv), .val (.int (own_res ef tv 5 fv)), .unset, .unset, .unset, .unset, .unset, .unset] [(.int tv), (.int fv)])) tgt
      refine XS.icmpNo X7.here hx rfl (hb hby at_69) rfl (teq hc69).2 ?_
      show Steps p.tables e below (T7.setTop (mkF m 72 #[.val (.int xb), .val (.int xf), .val (.int xt), .val (.ref ba), .val (.int fv), .val (.int tv), .val (.int (own_res ef tv 5 fv)), .unset, .unset, .unset, .unset, .unset, .unset] [])) tgt
      refine XS.iload X7.here hx rfl (hb hby at_72) rfl ?_
      show Steps p.tables e below (T7.setTop (mkF m 74 #[.val (.int xb), .val (.int xf), .val (.int xt), .val (.ref ba), .val (.int fv), .val (.int tv), .val (.int (own_res ef tv 5 fv)), .unset, .unset, .unset, .unset, .unset, .unset] [(.int (own_res ef tv 5 fv))])) tgt
      refine XS.iconst X7.here hx rfl (hb hby at_74) ?_
      show Steps p.tables e below (T7.setTop (mkF m 75 #[.val (.int xb), .val (.int xf), .val (.int xt), .val (.ref ba), .val (.int fv), .val (.int tv), .val (.int (own_res ef tv 5 fv)), .unset, .unset, .unset, .unset, .unset, .unset] [(.int (-1 : Int32)), (.int (own_res ef tv 5 fv))])) tgt
      refine XS.icmpNo X7.here hx rfl (hb hby at_75) rfl (teq (own_end (by rw [own_ilt, hc69]; omega))).2 ?_
      show Steps p.tables e below (T7.setTop (mkF m 78 #[.val (.int xb), .val (.int xf), .val (.int xt), .val (.ref ba), .val (.int fv), .val (.int tv), .val (.int (own_res ef tv 5 fv)), .unset, .unset, .unset, .unset, .unset, .unset] [])) tgt
      refine XS.iconst X7.here hx rfl (hb hby at_78) ?_
      show Steps p.tables e below (T7.setTop (mkF m 79 #[.val (.int xb), .val (.int xf), .val (.int xt), .val (.ref ba), .val (.int fv), .val (.int tv), .val (.int (own_res ef tv 5 fv)), .unset, .unset, .unset, .unset, .unset, .unset] [(.int (1 : Int32))])) tgt
      refine XS.goto X7.here hx rfl (pc0 := 79) (pc' := 83) rfl (hb hby at_79) (by decide) (by decide) ?_
      exact k
    refine own_retN X7 hx hlk (t := .boolean) (z' := (1 : Int32)) Bd.returns (by simp) rfl (hb hby at_83) ?_ (by decide) (by decide)
    show Q0 Z xb xf xt h0 n0 (some (.int (1 : Int32))) T7.heap _
    rw [K7]
    exact ⟨rfl, N7⟩
  · skip
    refine own_st (V := T7.setTop (mkF m 84 #[.val (.int xb), .val (.int xf), .val (.int xt), .val (.ref ba), .val (.int fv), .val (.int tv), .val (.int (own_res ef tv 5 fv)), .unset, .unset, .unset, .unset, .unset, .unset] [])) (fun tgt k => ?_) ?_
    · show Steps p.tables e below (T7.setTop (mkF m 69 #[.val (.int xb), .val (.int xf), .val (.int xt), .val (.ref ba), .val (.int fv), .val (.int tv), .val (.int (own_res ef tv 5 fv)), .unset, .unset, .unset, .unset, .unset, .unset] [(.int tv), (.int fv)])) tgt
      refine XS.icmpYes X7.here hx rfl (pc0 := 69) (pc' := 84) rfl (hb hby at_69) rfl (feq hc69).2 (by decide) (by decide) ?_
      exact k
    have hlt : fv < tv := by
      rw [own_ilt]
      have : fv.toInt ≠ tv.toInt := fun q => hc69 (Int32.toInt_inj.mp q)
      omega
    have hlt' := own_ilt.mp hlt
    have a1 : (fv + (1 : Int32)).toInt = ((fv.toInt.toNat + 1 : Nat) : Int) := own_ai hf0.1 (by omega) (by decide) (by decide)
    have a2 : (fv + (2 : Int32)).toInt = ((fv.toInt.toNat + 2 : Nat) : Int) := own_ai hf0.1 (by omega) (by decide) (by decide)
    have a3 : (fv + (3 : Int32)).toInt = ((fv.toInt.toNat + 3 : Nat) : Int) := own_ai hf0.1 (by omega) (by decide) (by decide)
    have a4 : (fv + (4 : Int32)).toInt = ((fv.toInt.toNat + 4 : Nat) : Int) := own_ai hf0.1 (by omega) (by decide) (by decide)
    refine own_st (V := T7.setTop (mkF m 94 #[.val (.int xb), .val (.int xf), .val (.int xt), .val (.ref ba), .val (.int fv), .val (.int tv), .val (.int (own_res ef tv 5 fv)), .val (.int ((ef fv.toInt.toNat) &&& (255 : Int32))), .unset, .unset, .unset, .unset, .unset] [])) (fun tgt k => ?_) ?_
    · show Steps p.tables e below (T7.setTop (mkF m 84 #[.val (.int xb), .val (.int xf), .val (.int xt), .val (.ref ba), .val (.int fv), .val (.int tv), .val (.int (own_res ef tv 5 fv)), .unset, .unset, .unset, .unset, .unset, .unset] [])) tgt
      refine XS.aloadN X7.here hx rfl (hb hby at_84) rfl rfl ?_
      show Steps p.tables e below (T7.setTop (mkF m 85 #[.val (.int xb), .val (.int xf), .val (.int xt), .val (.ref ba), .val (.int fv), .val (.int tv), .val (.int (own_res ef tv 5 fv)), .unset, .unset, .unset, .unset, .unset, .unset] [(.ref ba)])) tgt
      refine XS.iload X7.here hx rfl (hb hby at_85) rfl ?_
      show Steps p.tables e below (T7.setTop (mkF m 87 #[.val (.int xb), .val (.int xf), .val (.int xt), .val (.ref ba), .val (.int fv), .val (.int tv), .val (.int (own_res ef tv 5 fv)), .unset, .unset, .unset, .unset, .unset, .unset] [(.int fv), (.ref ba)])) tgt
      refine own_baload X7 hx hZ K7 Ag_ba_6 (j := fv) (k := fv.toInt.toNat) (by omega) (by omega) (g := (mkF m 87 #[.val (.int xb), .val (.int xf), .val (.int xt), .val (.ref ba), .val (.int fv), .val (.int tv), .val (.int (own_res ef tv 5 fv)), .unset, .unset, .unset, .unset, .unset, .unset] [(.int fv), (.ref ba)])) rfl rfl (hb hby at_87) ?_
      show Steps p.tables e below (T7.setTop (mkF m 88 #[.val (.int xb), .val (.int xf), .val (.int xt), .val (.ref ba), .val (.int fv), .val (.int tv), .val (.int (own_res ef tv 5 fv)), .unset, .unset, .unset, .unset, .unset, .unset] [(.int (ef fv.toInt.toNat))])) tgt
      refine XS.sipush X7.here hx rfl (hb hby at_88) ?_
      show Steps p.tables e below (T7.setTop (mkF m 91 #[.val (.int xb), .val (.int xf), .val (.int xt), .val (.ref ba), .val (.int fv), .val (.int tv), .val (.int (own_res ef tv 5 fv)), .unset, .unset, .unset, .unset, .unset, .unset] [(.int (255 : Int32)), (.int (ef fv.toInt.toNat))])) tgt
      refine XS.iand X7.here hx rfl (hb hby at_91) rfl ?_
      show Steps p.tables e below (T7.setTop (mkF m 92 #[.val (.int xb), .val (.int xf), .val (.int xt), .val (.ref ba), .val (.int fv), .val (.int tv), .val (.int (own_res ef tv 5 fv)), .unset, .unset, .unset, .unset, .unset, .unset] [(.int ((ef fv.toInt.toNat) &&& (255 : Int32)))])) tgt
      refine XS.istore X7.here hx rfl (hb hby at_92) rfl (l' := #[.val (.int xb), .val (.int xf), .val (.int xt), .val (.ref ba), .val (.int fv), .val (.int tv), .val (.int (own_res ef tv 5 fv)), .val (.int ((ef fv.toInt.toNat) &&& (255 : Int32))), .unset, .unset, .unset, .unset, .unset]) rfl ?_
      exact k
    obtain ⟨lv, hlv⟩ : ∃ z : Int32, z = ((ef fv.toInt.toNat) &&& (255 : Int32)) := ⟨_, rfl⟩
    rw [← hlv]
    have hl0 : 0 ≤ lv.toInt ∧ lv.toInt ≤ 255 := by rw [hlv]; exact own_b255 _
    refine own_st (V := T7.setTop (mkF m 99 #[.val (.int xb), .val (.int xf), .val (.int xt), .val (.ref ba), .val (.int fv), .val (.int tv), .val (.int (own_res ef tv 5 fv)), .val (.int lv), .unset, .unset, .unset, .unset, .unset] [(.int (128 : Int32)), (.int lv)])) (fun tgt k => ?_) ?_
    · show Steps p.tables e below (T7.setTop (mkF m 94 #[.val (.int xb), .val (.int xf), .val (.int xt), .val (.ref ba), .val (.int fv), .val (.int tv), .val (.int (own_res ef tv 5 fv)), .val (.int lv), .unset, .unset, .unset, .unset, .unset] [])) tgt
      refine XS.iload X7.here hx rfl (hb hby at_94) rfl ?_
      show Steps p.tables e below (T7.setTop (mkF m 96 #[.val (.int xb), .val (.int xf), .val (.int xt), .val (.ref ba), .val (.int fv), .val (.int tv), .val (.int (own_res ef tv 5 fv)), .val (.int lv), .unset, .unset, .unset, .unset, .unset] [(.int lv)])) tgt
      refine XS.sipush X7.here hx rfl (hb hby at_96) ?_
      exact k
    by_cases hc99 : lv < (128 : Int32)
    · skip
      refine own_st (V := T7.setTop (mkF m 195 #[.val (.int xb), .val (.int xf), .val (.int xt), .val (.ref ba), .val (.int fv), .val (.int tv), .val (.int (own_res ef tv 5 fv)), .val (.int lv), .val (.int (1 : Int32)), .unset, .unset, .unset, .unset] [])) (fun tgt k => ?_) ?_
      · show Steps p.tables e below (T7.setTop (mkF m 99 #[.val (.int xb), .val (.int xf), .val (.int xt), .val (.ref ba), .val (.int fv), .val (.int tv), .val (.int (own_res ef tv 5 fv)), .val (.int lv), .unset, .unset, .unset, .unset, .unset] [(.int (128 : Int32)), (.int lv)])) tgt
        refine XS.icmpNo X7.here hx rfl (hb hby at_99) rfl (tlt hc99).2.1 ?_
        show Steps p.tables e below (T7.setTop (mkF m 102 #[.val (.int xb), .val (.int xf), .val (.int xt), .val (.ref ba), .val (.int fv), .val (.int tv), .val (.int (own_res ef tv 5 fv)), .val (.int lv), .unset, .unset, .unset, .unset, .unset] [])) tgt
        refine XS.iconst X7.here hx rfl (hb hby at_102) ?_
        show Steps p.tables e below (T7.setTop (mkF m 103 #[.val (.int xb), .val (.int xf), .val (.int xt), .val (.ref ba), .val (.int fv), .val (.int tv), .val (.int (own_res ef tv 5 fv)), .val (.int lv), .unset, .unset, .unset, .unset, .unset] [(.int (1 : Int32))])) tgt
        refine XS.istore X7.here hx rfl (hb hby at_103) rfl (l' := #[.val (.int xb), .val (.int xf), .val (.int xt), .val (.ref ba), .val (.int fv), .val (.int tv), .val (.int (own_res ef tv 5 fv)), .val (.int lv), .val (.int (1 : Int32)), .unset, .unset, .unset, .unset]) rfl ?_
        show Steps p.tables e below (T7.setTop (mkF m 105 #[.val (.int xb), .val (.int xf), .val (.int xt), .val (.ref ba), .val (.int fv), .val (.int tv), .val (.int (own_res ef tv 5 fv)), .val (.int lv), .val (.int (1 : Int32)), .unset, .unset, .unset, .unset] [])) tgt
        refine XS.goto X7.here hx rfl (pc0 := 105) (pc' := 167) rfl (hb hby at_105) (by decide) (by decide) ?_
        show Steps p.tables e below (T7.setTop (mkF m 167 #[.val (.int xb), .val (.int xf), .val (.int xt), .val (.ref ba), .val (.int fv), .val (.int tv), .val (.int (own_res ef tv 5 fv)), .val (.int lv), .val (.int (1 : Int32)), .unset, .unset, .unset, .unset] [])) tgt
        refine XS.iload X7.here hx rfl (hb hby at_167) rfl ?_
        show Steps p.tables e below (T7.setTop (mkF m 169 #[.val (.int xb), .val (.int xf), .val (.int xt), .val (.ref ba), .val (.int fv), .val (.int tv), .val (.int (own_res ef tv 5 fv)), .val (.int lv), .val (.int (1 : Int32)), .unset, .unset, .unset, .unset] [(.int (1 : Int32))])) tgt
        refine XS.ifNo X7.here hx rfl (hb hby at_169) rfl ((if0 _ _).trans (feq (by decide : ¬ ((1 : Int32) = (0 : Int32)))).1) ?_
        show Steps p.tables e below (T7.setTop (mkF m 172 #[.val (.int xb), .val (.int xf), .val (.int xt), .val (.ref ba), .val (.int fv), .val (.int tv), .val (.int (own_res ef tv 5 fv)), .val (.int lv), .val (.int (1 : Int32)), .unset, .unset, .unset, .unset] [])) tgt
        refine XS.iload X7.here hx rfl (hb hby at_172) rfl ?_
        show Steps p.tables e below (T7.setTop (mkF m 174 #[.val (.int xb), .val (.int xf), .val (.int xt), .val (.ref ba), .val (.int fv), .val (.int tv), .val (.int (own_res ef tv 5 fv)), .val (.int lv), .val (.int (1 : Int32)), .unset, .unset, .unset, .unset] [(.int fv)])) tgt
        refine XS.iload X7.here hx rfl (hb hby at_174) rfl ?_
        show Steps p.tables e below (T7.setTop (mkF m 176 #[.val (.int xb), .val (.int xf), .val (.int xt), .val (.ref ba), .val (.int fv), .val (.int tv), .val (.int (own_res ef tv 5 fv)), .val (.int lv), .val (.int (1 : Int32)), .unset, .unset, .unset, .unset] [(.int (1 : Int32)), (.int fv)])) tgt
        refine XS.iadd X7.here hx rfl (hb hby at_176) rfl ?_
        show Steps p.tables e below (T7.setTop (mkF m 177 #[.val (.int xb), .val (.int xf), .val (.int xt), .val (.ref ba), .val (.int fv), .val (.int tv), .val (.int (own_res ef tv 5 fv)), .val (.int lv), .val (.int (1 : Int32)), .unset, .unset, .unset, .unset] [(.int (fv + (1 : Int32)))])) tgt
        refine XS.iload X7.here hx rfl (hb hby at_177) rfl ?_
        show Steps p.tables e below (T7.setTop (mkF m 179 #[.val (.int xb), .val (.int xf), .val (.int xt), .val (.ref ba), .val (.int fv), .val (.int tv), .val (.int (own_res ef tv 5 fv)), .val (.int lv), .val (.int (1 : Int32)), .unset, .unset, .unset, .unset] [(.int tv), (.int (fv + (1 : Int32)))])) tgt
        refine XS.icmpYes X7.here hx rfl (pc0 := 179) (pc' := 195) rfl (hb hby at_179) rfl (flt (by rw [own_ilt, a1]; omega)).2.2.2 (by decide) (by decide) ?_
        exact k
      have hfit : fv.toInt + 1 ≤ tv.toInt := by omega
      refine own_st (V := T7.setTop (mkF m 441 #[.val (.int xb), .val (.int xf), .val (.int xt), .val (.ref ba), .val (.int fv), .val (.int tv), .val (.int (own_res ef tv 5 fv)), .val (.int lv), .val (.int (1 : Int32)), .val (.int lv), .val (.int (0 : Int32)), .val (.int (1 : Int32)), .unset] [(.int (0 : Int32)), (.int lv)])) (fun tgt k => ?_) ?_
      · show Steps p.tables e below (T7.setTop (mkF m 195 #[.val (.int xb), .val (.int xf), .val (.int xt), .val (.ref ba), .val (.int fv), .val (.int tv), .val (.int (own_res ef tv 5 fv)), .val (.int lv), .val (.int (1 : Int32)), .unset, .unset, .unset, .unset] [])) tgt
        refine XS.iload X7.here hx rfl (hb hby at_195) rfl ?_
        show Steps p.tables e below (T7.setTop (mkF m 197 #[.val (.int xb), .val (.int xf), .val (.int xt), .val (.ref ba), .val (.int fv), .val (.int tv), .val (.int (own_res ef tv 5 fv)), .val (.int lv), .val (.int (1 : Int32)), .unset, .unset, .unset, .unset] [(.int (1 : Int32))])) tgt
        refine XS.iconst X7.here hx rfl (hb hby at_197) ?_
        show Steps p.tables e below (T7.setTop (mkF m 198 #[.val (.int xb), .val (.int xf), .val (.int xt), .val (.ref ba), .val (.int fv), .val (.int tv), .val (.int (own_res ef tv 5 fv)), .val (.int lv), .val (.int (1 : Int32)), .unset, .unset, .unset, .unset] [(.int (1 : Int32)), (.int (1 : Int32))])) tgt
        refine XS.icmpNo X7.here hx rfl (hb hby at_198) rfl (teq (by decide : (1 : Int32) = (1 : Int32))).2 ?_
        show Steps p.tables e below (T7.setTop (mkF m 201 #[.val (.int xb), .val (.int xf), .val (.int xt), .val (.ref ba), .val (.int fv), .val (.int tv), .val (.int (own_res ef tv 5 fv)), .val (.int lv), .val (.int (1 : Int32)), .unset, .unset, .unset, .unset] [])) tgt
        refine XS.iload X7.here hx rfl (hb hby at_201) rfl ?_
        show Steps p.tables e below (T7.setTop (mkF m 203 #[.val (.int xb), .val (.int xf), .val (.int xt), .val (.ref ba), .val (.int fv), .val (.int tv), .val (.int (own_res ef tv 5 fv)), .val (.int lv), .val (.int (1 : Int32)), .unset, .unset, .unset, .unset] [(.int lv)])) tgt
        refine XS.istore X7.here hx rfl (hb hby at_203) rfl (l' := #[.val (.int xb), .val (.int xf), .val (.int xt), .val (.ref ba), .val (.int fv), .val (.int tv), .val (.int (own_res ef tv 5 fv)), .val (.int lv), .val (.int (1 : Int32)), .val (.int lv), .unset, .unset, .unset]) rfl ?_
        show Steps p.tables e below (T7.setTop (mkF m 205 #[.val (.int xb), .val (.int xf), .val (.int xt), .val (.ref ba), .val (.int fv), .val (.int tv), .val (.int (own_res ef tv 5 fv)), .val (.int lv), .val (.int (1 : Int32)), .val (.int lv), .unset, .unset, .unset] [])) tgt
        refine XS.iconst X7.here hx rfl (hb hby at_205) ?_
        show Steps p.tables e below (T7.setTop (mkF m 206 #[.val (.int xb), .val (.int xf), .val (.int xt), .val (.ref ba), .val (.int fv), .val (.int tv), .val (.int (own_res ef tv 5 fv)), .val (.int lv), .val (.int (1 : Int32)), .val (.int lv), .unset, .unset, .unset] [(.int (0 : Int32))])) tgt
        refine XS.istore X7.here hx rfl (hb hby at_206) rfl (l' := #[.val (.int xb), .val (.int xf), .val (.int xt), .val (.ref ba), .val (.int fv), .val (.int tv), .val (.int (own_res ef tv 5 fv)), .val (.int lv), .val (.int (1 : Int32)), .val (.int lv), .val (.int (0 : Int32)), .unset, .unset]) rfl ?_
        show Steps p.tables e below (T7.setTop (mkF m 208 #[.val (.int xb), .val (.int xf), .val (.int xt), .val (.ref ba), .val (.int fv), .val (.int tv), .val (.int (own_res ef tv 5 fv)), .val (.int lv), .val (.int (1 : Int32)), .val (.int lv), .val (.int (0 : Int32)), .unset, .unset] [])) tgt
        refine XS.goto X7.here hx rfl (pc0 := 208) (pc' := 264) rfl (hb hby at_208) (by decide) (by decide) ?_
        show Steps p.tables e below (T7.setTop (mkF m 264 #[.val (.int xb), .val (.int xf), .val (.int xt), .val (.ref ba), .val (.int fv), .val (.int tv), .val (.int (own_res ef tv 5 fv)), .val (.int lv), .val (.int (1 : Int32)), .val (.int lv), .val (.int (0 : Int32)), .unset, .unset] [])) tgt
        refine XS.iconst X7.here hx rfl (hb hby at_264) ?_
        show Steps p.tables e below (T7.setTop (mkF m 265 #[.val (.int xb), .val (.int xf), .val (.int xt), .val (.ref ba), .val (.int fv), .val (.int tv), .val (.int (own_res ef tv 5 fv)), .val (.int lv), .val (.int (1 : Int32)), .val (.int lv), .val (.int (0 : Int32)), .unset, .unset] [(.int (1 : Int32))])) tgt
        refine XS.istore X7.here hx rfl (hb hby at_265) rfl (l' := #[.val (.int xb), .val (.int xf), .val (.int xt), .val (.ref ba), .val (.int fv), .val (.int tv), .val (.int (own_res ef tv 5 fv)), .val (.int lv), .val (.int (1 : Int32)), .val (.int lv), .val (.int (0 : Int32)), .val (.int (1 : Int32)), .unset]) rfl ?_
        show Steps p.tables e below (T7.setTop (mkF m 267 #[.val (.int xb), .val (.int xf), .val (.int xt), .val (.ref ba), .val (.int fv), .val (.int tv), .val (.int (own_res ef tv 5 fv)), .val (.int lv), .val (.int (1 : Int32)), .val (.int lv), .val (.int (0 : Int32)), .val (.int (1 : Int32)), .unset] [])) tgt
        refine XS.iload X7.here hx rfl (hb hby at_267) rfl ?_
        show Steps p.tables e below (T7.setTop (mkF m 269 #[.val (.int xb), .val (.int xf), .val (.int xt), .val (.ref ba), .val (.int fv), .val (.int tv), .val (.int (own_res ef tv 5 fv)), .val (.int lv), .val (.int (1 : Int32)), .val (.int lv), .val (.int (0 : Int32)), .val (.int (1 : Int32)), .unset] [(.int (1 : Int32))])) tgt
        refine XS.iconst X7.here hx rfl (hb hby at_269) ?_
        show Steps p.tables e below (T7.setTop (mkF m 270 #[.val (.int xb), .val (.int xf), .val (.int xt), .val (.ref ba), .val (.int fv), .val (.int tv), .val (.int (own_res ef tv 5 fv)), .val (.int lv), .val (.int (1 : Int32)), .val (.int lv), .val (.int (0 : Int32)), .val (.int (1 : Int32)), .unset] [(.int (2 : Int32)), (.int (1 : Int32))])) tgt
        refine XS.icmpYes X7.here hx rfl (pc0 := 270) (pc' := 322) rfl (hb hby at_270) rfl (tlt (by decide : (1 : Int32) < (2 : Int32))).1 (by decide) (by decide) ?_
        show Steps p.tables e below (T7.setTop (mkF m 322 #[.val (.int xb), .val (.int xf), .val (.int xt), .val (.ref ba), .val (.int fv), .val (.int tv), .val (.int (own_res ef tv 5 fv)), .val (.int lv), .val (.int (1 : Int32)), .val (.int lv), .val (.int (0 : Int32)), .val (.int (1 : Int32)), .unset] [])) tgt
        refine XS.iload X7.here hx rfl (hb hby at_322) rfl ?_
        show Steps p.tables e below (T7.setTop (mkF m 324 #[.val (.int xb), .val (.int xf), .val (.int xt), .val (.ref ba), .val (.int fv), .val (.int tv), .val (.int (own_res ef tv 5 fv)), .val (.int lv), .val (.int (1 : Int32)), .val (.int lv), .val (.int (0 : Int32)), .val (.int (1 : Int32)), .unset] [(.int (1 : Int32))])) tgt
        refine XS.iconst X7.here hx rfl (hb hby at_324) ?_
        show Steps p.tables e below (T7.setTop (mkF m 325 #[.val (.int xb), .val (.int xf), .val (.int xt), .val (.ref ba), .val (.int fv), .val (.int tv), .val (.int (own_res ef tv 5 fv)), .val (.int lv), .val (.int (1 : Int32)), .val (.int lv), .val (.int (0 : Int32)), .val (.int (1 : Int32)), .unset] [(.int (3 : Int32)), (.int (1 : Int32))])) tgt
        refine XS.icmpYes X7.here hx rfl (pc0 := 325) (pc' := 377) rfl (hb hby at_325) rfl (tlt (by decide : (1 : Int32) < (3 : Int32))).1 (by decide) (by decide) ?_
        show Steps p.tables e below (T7.setTop (mkF m 377 #[.val (.int xb), .val (.int xf), .val (.int xt), .val (.ref ba), .val (.int fv), .val (.int tv), .val (.int (own_res ef tv 5 fv)), .val (.int lv), .val (.int (1 : Int32)), .val (.int lv), .val (.int (0 : Int32)), .val (.int (1 : Int32)), .unset] [])) tgt
        refine XS.iload X7.here hx rfl (hb hby at_377) rfl ?_
        show Steps p.tables e below (T7.setTop (mkF m 379 #[.val (.int xb), .val (.int xf), .val (.int xt), .val (.ref ba), .val (.int fv), .val (.int tv), .val (.int (own_res ef tv 5 fv)), .val (.int lv), .val (.int (1 : Int32)), .val (.int lv), .val (.int (0 : Int32)), .val (.int (1 : Int32)), .unset] [(.int (1 : Int32))])) tgt
        refine XS.iconst X7.here hx rfl (hb hby at_379) ?_
        show Steps p.tables e below (T7.setTop (mkF m 380 #[.val (.int xb), .val (.int xf), .val (.int xt), .val (.ref ba), .val (.int fv), .val (.int tv), .val (.int (own_res ef tv 5 fv)), .val (.int lv), .val (.int (1 : Int32)), .val (.int lv), .val (.int (0 : Int32)), .val (.int (1 : Int32)), .unset] [(.int (4 : Int32)), (.int (1 : Int32))])) tgt
        refine XS.icmpYes X7.here hx rfl (pc0 := 380) (pc' := 432) rfl (hb hby at_380) rfl (tlt (by decide : (1 : Int32) < (4 : Int32))).1 (by decide) (by decide) ?_
        show Steps p.tables e below (T7.setTop (mkF m 432 #[.val (.int xb), .val (.int xf), .val (.int xt), .val (.ref ba), .val (.int fv), .val (.int tv), .val (.int (own_res ef tv 5 fv)), .val (.int lv), .val (.int (1 : Int32)), .val (.int lv), .val (.int (0 : Int32)), .val (.int (1 : Int32)), .unset] [])) tgt
        refine XS.iload X7.here hx rfl (hb hby at_432) rfl ?_
        show Steps p.tables e below (T7.setTop (mkF m 434 #[.val (.int xb), .val (.int xf), .val (.int xt), .val (.ref ba), .val (.int fv), .val (.int tv), .val (.int (own_res ef tv 5 fv)), .val (.int lv), .val (.int (1 : Int32)), .val (.int lv), .val (.int (0 : Int32)), .val (.int (1 : Int32)), .unset] [(.int (1 : Int32))])) tgt
        refine XS.ifNo X7.here hx rfl (hb hby at_434) rfl ((if0 _ _).trans (feq (by decide : ¬ ((1 : Int32) = (0 : Int32)))).1) ?_
        show Steps p.tables e below (T7.setTop (mkF m 437 #[.val (.int xb), .val (.int xf), .val (.int xt), .val (.ref ba), .val (.int fv), .val (.int tv), .val (.int (own_res ef tv 5 fv)), .val (.int lv), .val (.int (1 : Int32)), .val (.int lv), .val (.int (0 : Int32)), .val (.int (1 : Int32)), .unset] [])) tgt
        refine XS.iload X7.here hx rfl (hb hby at_437) rfl ?_
        show Steps p.tables e below (T7.setTop (mkF m 439 #[.val (.int xb), .val (.int xf), .val (.int xt), .val (.ref ba), .val (.int fv), .val (.int tv), .val (.int (own_res ef tv 5 fv)), .val (.int lv), .val (.int (1 : Int32)), .val (.int lv), .val (.int (0 : Int32)), .val (.int (1 : Int32)), .unset] [(.int lv)])) tgt
        refine XS.iload X7.here hx rfl (hb hby at_439) rfl ?_
        exact k
      obtain ⟨vd, hvd⟩ : ∃ z : Int32, z = (if lv < (0 : Int32) then (0 : Int32) else (if (1114111 : Int32) < lv then (0 : Int32) else (if lv < (55296 : Int32) then (1 : Int32) else (if (57343 : Int32) < lv then (1 : Int32) else (0 : Int32))))) := ⟨_, rfl⟩
      refine own_st (V := T7.setTop (mkF m 470 #[.val (.int xb), .val (.int xf), .val (.int xt), .val (.ref ba), .val (.int fv), .val (.int tv), .val (.int (own_res ef tv 5 fv)), .val (.int lv), .val (.int (1 : Int32)), .val (.int lv), .val (.int (0 : Int32)), .val (.int (1 : Int32)), .unset] [(.int vd)])) (fun tgt k => ?_) ?_
      · skip
        by_cases hc441_2 : lv < (0 : Int32)
        · skip
          rw [if_pos hc441_2] at hvd
          show Steps p.tables e below (T7.setTop (mkF m 441 #[.val (.int xb), .val (.int xf), .val (.int xt), .val (.ref ba), .val (.int fv), .val (.int tv), .val (.int (own_res ef tv 5 fv)), .val (.int lv), .val (.int (1 : Int32)), .val (.int lv), .val (.int (0 : Int32)), .val (.int (1 : Int32)), .unset] [(.int (0 : Int32)), (.int lv)])) tgt
          refine XS.icmpYes X7.here hx rfl (pc0 := 441) (pc' := 469) rfl (hb hby at_441) rfl (tlt hc441_2).1 (by decide) (by decide) ?_
          show Steps p.tables e below (T7.setTop (mkF m 469 #[.val (.int xb), .val (.int xf), .val (.int xt), .val (.ref ba), .val (.int fv), .val (.int tv), .val (.int (own_res ef tv 5 fv)), .val (.int lv), .val (.int (1 : Int32)), .val (.int lv), .val (.int (0 : Int32)), .val (.int (1 : Int32)), .unset] [])) tgt
          refine XS.iconst X7.here hx rfl (hb hby at_469) ?_
          rw [hvd] at k
          exact k
        · skip
          rw [if_neg hc441_2] at hvd
          show Steps p.tables e below (T7.setTop (mkF m 441 #[.val (.int xb), .val (.int xf), .val (.int xt), .val (.ref ba), .val (.int fv), .val (.int tv), .val (.int (own_res ef tv 5 fv)), .val (.int lv), .val (.int (1 : Int32)), .val (.int lv), .val (.int (0 : Int32)), .val (.int (1 : Int32)), .unset] [(.int (0 : Int32)), (.int lv)])) tgt
          refine XS.icmpNo X7.here hx rfl (hb hby at_441) rfl (flt hc441_2).1 ?_
          show Steps p.tables e below (T7.setTop (mkF m 444 #[.val (.int xb), .val (.int xf), .val (.int xt), .val (.ref ba), .val (.int fv), .val (.int tv), .val (.int (own_res ef tv 5 fv)), .val (.int lv), .val (.int (1 : Int32)), .val (.int lv), .val (.int (0 : Int32)), .val (.int (1 : Int32)), .unset] [])) tgt
          refine XS.iload X7.here hx rfl (hb hby at_444) rfl ?_
          show Steps p.tables e below (T7.setTop (mkF m 446 #[.val (.int xb), .val (.int xf), .val (.int xt), .val (.ref ba), .val (.int fv), .val (.int tv), .val (.int (own_res ef tv 5 fv)), .val (.int lv), .val (.int (1 : Int32)), .val (.int lv), .val (.int (0 : Int32)), .val (.int (1 : Int32)), .unset] [(.int lv)])) tgt
          refine X7.ldcInt hx hown (mvT hZ (hw _ (List.mem_of_getElem? (i := 6) rfl))) (g := (mkF m 446 #[.val (.int xb), .val (.int xf), .val (.int xt), .val (.ref ba), .val (.int fv), .val (.int tv), .val (.int (own_res ef tv 5 fv)), .val (.int lv), .val (.int (1 : Int32)), .val (.int lv), .val (.int (0 : Int32)), .val (.int (1 : Int32)), .unset] [(.int lv)])) rfl (hb hby at_446) _ ?_
          by_cases hc448 : (1114111 : Int32) < lv
          · skip
            rw [if_pos hc448] at hvd
            show Steps p.tables e below (T7.setTop (mkF m 448 #[.val (.int xb), .val (.int xf), .val (.int xt), .val (.ref ba), .val (.int fv), .val (.int tv), .val (.int (own_res ef tv 5 fv)), .val (.int lv), .val (.int (1 : Int32)), .val (.int lv), .val (.int (0 : Int32)), .val (.int (1 : Int32)), .unset] [(.int (1114111 : Int32)), (.int lv)])) tgt
            refine XS.icmpYes X7.here hx rfl (pc0 := 448) (pc' := 469) rfl (hb hby at_448) rfl (tlt hc448).2.2.1 (by decide) (by decide) ?_
            show Steps p.tables e below (T7.setTop (mkF m 469 #[.val (.int xb), .val (.int xf), .val (.int xt), .val (.ref ba), .val (.int fv), .val (.int tv), .val (.int (own_res ef tv 5 fv)), .val (.int lv), .val (.int (1 : Int32)), .val (.int lv), .val (.int (0 : Int32)), .val (.int (1 : Int32)), .unset] [])) tgt
            refine XS.iconst X7.here hx rfl (hb hby at_469) ?_
            rw [hvd] at k
            exact k
          · skip
            rw [if_neg hc448] at hvd
            show Steps p.tables e below (T7.setTop (mkF m 448 #[.val (.int xb), .val (.int xf), .val (.int xt), .val (.ref ba), .val (.int fv), .val (.int tv), .val (.int (own_res ef tv 5 fv)), .val (.int lv), .val (.int (1 : Int32)), .val (.int lv), .val (.int (0 : Int32)), .val (.int (1 : Int32)), .unset] [(.int (1114111 : Int32)), (.int lv)])) tgt
            refine XS.icmpNo X7.here hx rfl (hb hby at_448) rfl (flt hc448).2.2.1 ?_
            show Steps p.tables e below (T7.setTop (mkF m 451 #[.val (.int xb), .val (.int xf), .val (.int xt), .val (.ref ba), .val (.int fv), .val (.int tv), .val (.int (own_res ef tv 5 fv)), .val (.int lv), .val (.int (1 : Int32)), .val (.int lv), .val (.int (0 : Int32)), .val (.int (1 : Int32)), .unset] [])) tgt
            refine XS.iload X7.here hx rfl (hb hby at_451) rfl ?_
            show Steps p.tables e below (T7.setTop (mkF m 453 #[.val (.int xb), .val (.int xf), .val (.int xt), .val (.ref ba), .val (.int fv), .val (.int tv), .val (.int (own_res ef tv 5 fv)), .val (.int lv), .val (.int (1 : Int32)), .val (.int lv), .val (.int (0 : Int32)), .val (.int (1 : Int32)), .unset] [(.int lv)])) tgt
            refine X7.ldcInt hx hown (mvT hZ (hw _ (List.mem_of_getElem? (i := 7) rfl))) (g := (mkF m 453 #[.val (.int xb), .val (.int xf), .val (.int xt), .val (.ref ba), .val (.int fv), .val (.int tv), .val (.int (own_res ef tv 5 fv)), .val (.int lv), .val (.int (1 : Int32)), .val (.int lv), .val (.int (0 : Int32)), .val (.int (1 : Int32)), .unset] [(.int lv)])) rfl (hb hby at_453) _ ?_
            by_cases hc455 : lv < (55296 : Int32)
            · skip
              rw [if_pos hc455] at hvd
              show Steps p.tables e below (T7.setTop (mkF m 455 #[.val (.int xb), .val (.int xf), .val (.int xt), .val (.ref ba), .val (.int fv), .val (.int tv), .val (.int (own_res ef tv 5 fv)), .val (.int lv), .val (.int (1 : Int32)), .val (.int lv), .val (.int (0 : Int32)), .val (.int (1 : Int32)), .unset] [(.int (55296 : Int32)), (.int lv)])) tgt
              refine XS.icmpYes X7.here hx rfl (pc0 := 455) (pc' := 465) rfl (hb hby at_455) rfl (tlt hc455).1 (by decide) (by decide) ?_
              show Steps p.tables e below (T7.setTop (mkF m 465 #[.val (.int xb), .val (.int xf), .val (.int xt), .val (.ref ba), .val (.int fv), .val (.int tv), .val (.int (own_res ef tv 5 fv)), .val (.int lv), .val (.int (1 : Int32)), .val (.int lv), .val (.int (0 : Int32)), .val (.int (1 : Int32)), .unset] [])) tgt
              refine XS.iconst X7.here hx rfl (hb hby at_465) ?_
              show Steps p.tables e below (T7.setTop (mkF m 466 #[.val (.int xb), .val (.int xf), .val (.int xt), .val (.ref ba), .val (.int fv), .val (.int tv), .val (.int (own_res ef tv 5 fv)), .val (.int lv), .val (.int (1 : Int32)), .val (.int lv), .val (.int (0 : Int32)), .val (.int (1 : Int32)), .unset] [(.int (1 : Int32))])) tgt
              refine XS.goto X7.here hx rfl (pc0 := 466) (pc' := 470) rfl (hb hby at_466) (by decide) (by decide) ?_
              rw [hvd] at k
              exact k
            · skip
              rw [if_neg hc455] at hvd
              show Steps p.tables e below (T7.setTop (mkF m 455 #[.val (.int xb), .val (.int xf), .val (.int xt), .val (.ref ba), .val (.int fv), .val (.int tv), .val (.int (own_res ef tv 5 fv)), .val (.int lv), .val (.int (1 : Int32)), .val (.int lv), .val (.int (0 : Int32)), .val (.int (1 : Int32)), .unset] [(.int (55296 : Int32)), (.int lv)])) tgt
              refine XS.icmpNo X7.here hx rfl (hb hby at_455) rfl (flt hc455).1 ?_
              show Steps p.tables e below (T7.setTop (mkF m 458 #[.val (.int xb), .val (.int xf), .val (.int xt), .val (.ref ba), .val (.int fv), .val (.int tv), .val (.int (own_res ef tv 5 fv)), .val (.int lv), .val (.int (1 : Int32)), .val (.int lv), .val (.int (0 : Int32)), .val (.int (1 : Int32)), .unset] [])) tgt
              refine XS.iload X7.here hx rfl (hb hby at_458) rfl ?_
              show Steps p.tables e below (T7.setTop (mkF m 460 #[.val (.int xb), .val (.int xf), .val (.int xt), .val (.ref ba), .val (.int fv), .val (.int tv), .val (.int (own_res ef tv 5 fv)), .val (.int lv), .val (.int (1 : Int32)), .val (.int lv), .val (.int (0 : Int32)), .val (.int (1 : Int32)), .unset] [(.int lv)])) tgt
              refine X7.ldcInt hx hown (mvT hZ (hw _ (List.mem_of_getElem? (i := 9) rfl))) (g := (mkF m 460 #[.val (.int xb), .val (.int xf), .val (.int xt), .val (.ref ba), .val (.int fv), .val (.int tv), .val (.int (own_res ef tv 5 fv)), .val (.int lv), .val (.int (1 : Int32)), .val (.int lv), .val (.int (0 : Int32)), .val (.int (1 : Int32)), .unset] [(.int lv)])) rfl (hb hby at_460) _ ?_
              by_cases hc462 : (57343 : Int32) < lv
              · skip
                rw [if_pos hc462] at hvd
                show Steps p.tables e below (T7.setTop (mkF m 462 #[.val (.int xb), .val (.int xf), .val (.int xt), .val (.ref ba), .val (.int fv), .val (.int tv), .val (.int (own_res ef tv 5 fv)), .val (.int lv), .val (.int (1 : Int32)), .val (.int lv), .val (.int (0 : Int32)), .val (.int (1 : Int32)), .unset] [(.int (57343 : Int32)), (.int lv)])) tgt
                refine XS.icmpNo X7.here hx rfl (hb hby at_462) rfl (tlt hc462).2.2.2 ?_
                show Steps p.tables e below (T7.setTop (mkF m 465 #[.val (.int xb), .val (.int xf), .val (.int xt), .val (.ref ba), .val (.int fv), .val (.int tv), .val (.int (own_res ef tv 5 fv)), .val (.int lv), .val (.int (1 : Int32)), .val (.int lv), .val (.int (0 : Int32)), .val (.int (1 : Int32)), .unset] [])) tgt
                refine XS.iconst X7.here hx rfl (hb hby at_465) ?_
                show Steps p.tables e below (T7.setTop (mkF m 466 #[.val (.int xb), .val (.int xf), .val (.int xt), .val (.ref ba), .val (.int fv), .val (.int tv), .val (.int (own_res ef tv 5 fv)), .val (.int lv), .val (.int (1 : Int32)), .val (.int lv), .val (.int (0 : Int32)), .val (.int (1 : Int32)), .unset] [(.int (1 : Int32))])) tgt
                refine XS.goto X7.here hx rfl (pc0 := 466) (pc' := 470) rfl (hb hby at_466) (by decide) (by decide) ?_
                rw [hvd] at k
                exact k
              · skip
                rw [if_neg hc462] at hvd
                show Steps p.tables e below (T7.setTop (mkF m 462 #[.val (.int xb), .val (.int xf), .val (.int xt), .val (.ref ba), .val (.int fv), .val (.int tv), .val (.int (own_res ef tv 5 fv)), .val (.int lv), .val (.int (1 : Int32)), .val (.int lv), .val (.int (0 : Int32)), .val (.int (1 : Int32)), .unset] [(.int (57343 : Int32)), (.int lv)])) tgt
                refine XS.icmpYes X7.here hx rfl (pc0 := 462) (pc' := 469) rfl (hb hby at_462) rfl (flt hc462).2.2.2 (by decide) (by decide) ?_
                show Steps p.tables e below (T7.setTop (mkF m 469 #[.val (.int xb), .val (.int xf), .val (.int xt), .val (.ref ba), .val (.int fv), .val (.int tv), .val (.int (own_res ef tv 5 fv)), .val (.int lv), .val (.int (1 : Int32)), .val (.int lv), .val (.int (0 : Int32)), .val (.int (1 : Int32)), .unset] [])) tgt
                refine XS.iconst X7.here hx rfl (hb hby at_469) ?_
                rw [hvd] at k
                exact k
      refine own_st (V := T7.setTop (mkF m 474 #[.val (.int xb), .val (.int xf), .val (.int xt), .val (.ref ba), .val (.int fv), .val (.int tv), .val (.int (own_res ef tv 5 fv)), .val (.int lv), .val (.int (1 : Int32)), .val (.int lv), .val (.int (0 : Int32)), .val (.int (1 : Int32)), .val (.int vd)] [(.int vd)])) (fun tgt k => ?_) ?_
      · show Steps p.tables e below (T7.setTop (mkF m 470 #[.val (.int xb), .val (.int xf), .val (.int xt), .val (.ref ba), .val (.int fv), .val (.int tv), .val (.int (own_res ef tv 5 fv)), .val (.int lv), .val (.int (1 : Int32)), .val (.int lv), .val (.int (0 : Int32)), .val (.int (1 : Int32)), .unset] [(.int vd)])) tgt
        refine XS.istore X7.here hx rfl (hb hby at_470) rfl (l' := #[.val (.int xb), .val (.int xf), .val (.int xt), .val (.ref ba), .val (.int fv), .val (.int tv), .val (.int (own_res ef tv 5 fv)), .val (.int lv), .val (.int (1 : Int32)), .val (.int lv), .val (.int (0 : Int32)), .val (.int (1 : Int32)), .val (.int vd)]) rfl ?_
        show Steps p.tables e below (T7.setTop (mkF m 472 #[.val (.int xb), .val (.int xf), .val (.int xt), .val (.ref ba), .val (.int fv), .val (.int tv), .val (.int (own_res ef tv 5 fv)), .val (.int lv), .val (.int (1 : Int32)), .val (.int lv), .val (.int (0 : Int32)), .val (.int (1 : Int32)), .val (.int vd)] [])) tgt
        refine XS.iload X7.here hx rfl (hb hby at_472) rfl ?_
        exact k
      by_cases hc474 : vd = (0 : Int32)
      · skip
        refine own_st (V := T7.setTop (mkF m 489 #[.val (.int xb), .val (.int xf), .val (.int xt), .val (.ref ba), .val (.int fv), .val (.int tv), .val (.int (own_res ef tv 5 fv)), .val (.int lv), .val (.int (1 : Int32)), .val (.int lv), .val (.int (0 : Int32)), .val (.int (1 : Int32)), .val (.int vd)] [(.int (1 : Int32))])) (fun tgt k => ?_) ?_
        · show Steps p.tables e below (T7.setTop (mkF m 474 #[.val (.int xb), .val (.int xf), .val (.int xt), .val (.ref ba), .val (.int fv), .val (.int tv), .val (.int (own_res ef tv 5 fv)), .val (.int lv), .val (.int (1 : Int32)), .val (.int lv), .val (.int (0 : Int32)), .val (.int (1 : Int32)), .val (.int vd)] [(.int vd)])) tgt
          refine XS.ifNo X7.here hx rfl (hb hby at_474) rfl ((if0 _ _).trans (teq hc474).2) ?_
          show Steps p.tables e below (T7.setTop (mkF m 477 #[.val (.int xb), .val (.int xf), .val (.int xt), .val (.ref ba), .val (.int fv), .val (.int tv), .val (.int (own_res ef tv 5 fv)), .val (.int lv), .val (.int (1 : Int32)), .val (.int lv), .val (.int (0 : Int32)), .val (.int (1 : Int32)), .val (.int vd)] [])) tgt
          refine XS.iload X7.here hx rfl (hb hby at_477) rfl ?_
          show Steps p.tables e below (T7.setTop (mkF m 479 #[.val (.int xb), .val (.int xf), .val (.int xt), .val (.ref ba), .val (.int fv), .val (.int tv), .val (.int (own_res ef tv 5 fv)), .val (.int lv), .val (.int (1 : Int32)), .val (.int lv), .val (.int (0 : Int32)), .val (.int (1 : Int32)), .val (.int vd)] [(.int (own_res ef tv 5 fv))])) tgt
          refine XS.iload X7.here hx rfl (hb hby at_479) rfl ?_
          show Steps p.tables e below (T7.setTop (mkF m 481 #[.val (.int xb), .val (.int xf), .val (.int xt), .val (.ref ba), .val (.int fv), .val (.int tv), .val (.int (own_res ef tv 5 fv)), .val (.int lv), .val (.int (1 : Int32)), .val (.int lv), .val (.int (0 : Int32)), .val (.int (1 : Int32)), .val (.int vd)] [(.int fv), (.int (own_res ef tv 5 fv))])) tgt
          refine XS.icmpNo X7.here hx rfl (hb hby at_481) rfl (teq (own_bad hlt (by unfold own_S; rw [← hlv]; exact (own_v1 hc99 hl0 hvd).1 hc474))).2 ?_
          show Steps p.tables e below (T7.setTop (mkF m 484 #[.val (.int xb), .val (.int xf), .val (.int xt), .val (.ref ba), .val (.int fv), .val (.int tv), .val (.int (own_res ef tv 5 fv)), .val (.int lv), .val (.int (1 : Int32)), .val (.int lv), .val (.int (0 : Int32)), .val (.int (1 : Int32)), .val (.int vd)] [])) tgt
          refine XS.iconst X7.here hx rfl (hb hby at_484) ?_
          show Steps p.tables e below (T7.setTop (mkF m 485 #[.val (.int xb), .val (.int xf), .val (.int xt), .val (.ref ba), .val (.int fv), .val (.int tv), .val (.int (own_res ef tv 5 fv)), .val (.int lv), .val (.int (1 : Int32)), .val (.int lv), .val (.int (0 : Int32)), .val (.int (1 : Int32)), .val (.int vd)] [(.int (1 : Int32))])) tgt
          refine XS.goto X7.here hx rfl (pc0 := 485) (pc' := 489) rfl (hb hby at_485) (by decide) (by decide) ?_
          exact k
        refine own_retN X7 hx hlk (t := .boolean) (z' := (1 : Int32)) Bd.returns (by simp) rfl (hb hby at_489) ?_ (by decide) (by decide)
        show Q0 Z xb xf xt h0 n0 (some (.int (1 : Int32))) T7.heap _
        rw [K7]
        exact ⟨rfl, N7⟩
      · skip
        refine own_st (V := T7.setTop (mkF m 500 #[.val (.int xb), .val (.int xf), .val (.int xt), .val (.ref ba), .val (.int fv), .val (.int tv), .val (.int (own_res ef tv 5 fv)), .val (.int lv), .val (.int (1 : Int32)), .val (.int lv), .val (.int (0 : Int32)), .val (.int (1 : Int32)), .val (.int vd)] [(.int tv), (.int (fv + (1 : Int32))), (.ref ba), (.int (own_res ef tv 5 fv))])) (fun tgt k => ?_) ?_
        · show Steps p.tables e below (T7.setTop (mkF m 474 #[.val (.int xb), .val (.int xf), .val (.int xt), .val (.ref ba), .val (.int fv), .val (.int tv), .val (.int (own_res ef tv 5 fv)), .val (.int lv), .val (.int (1 : Int32)), .val (.int lv), .val (.int (0 : Int32)), .val (.int (1 : Int32)), .val (.int vd)] [(.int vd)])) tgt
          refine XS.ifYes X7.here hx rfl (pc0 := 474) (pc' := 490) rfl (hb hby at_474) rfl ((if0 _ _).trans (feq hc474).2) (by decide) (by decide) ?_
          show Steps p.tables e below (T7.setTop (mkF m 490 #[.val (.int xb), .val (.int xf), .val (.int xt), .val (.ref ba), .val (.int fv), .val (.int tv), .val (.int (own_res ef tv 5 fv)), .val (.int lv), .val (.int (1 : Int32)), .val (.int lv), .val (.int (0 : Int32)), .val (.int (1 : Int32)), .val (.int vd)] [])) tgt
          refine XS.iload X7.here hx rfl (hb hby at_490) rfl ?_
          show Steps p.tables e below (T7.setTop (mkF m 492 #[.val (.int xb), .val (.int xf), .val (.int xt), .val (.ref ba), .val (.int fv), .val (.int tv), .val (.int (own_res ef tv 5 fv)), .val (.int lv), .val (.int (1 : Int32)), .val (.int lv), .val (.int (0 : Int32)), .val (.int (1 : Int32)), .val (.int vd)] [(.int (own_res ef tv 5 fv))])) tgt
          refine XS.aloadN X7.here hx rfl (hb hby at_492) rfl rfl ?_
          show Steps p.tables e below (T7.setTop (mkF m 493 #[.val (.int xb), .val (.int xf), .val (.int xt), .val (.ref ba), .val (.int fv), .val (.int tv), .val (.int (own_res ef tv 5 fv)), .val (.int lv), .val (.int (1 : Int32)), .val (.int lv), .val (.int (0 : Int32)), .val (.int (1 : Int32)), .val (.int vd)] [(.ref ba), (.int (own_res ef tv 5 fv))])) tgt
          refine XS.iload X7.here hx rfl (hb hby at_493) rfl ?_
          show Steps p.tables e below (T7.setTop (mkF m 495 #[.val (.int xb), .val (.int xf), .val (.int xt), .val (.ref ba), .val (.int fv), .val (.int tv), .val (.int (own_res ef tv 5 fv)), .val (.int lv), .val (.int (1 : Int32)), .val (.int lv), .val (.int (0 : Int32)), .val (.int (1 : Int32)), .val (.int vd)] [(.int fv), (.ref ba), (.int (own_res ef tv 5 fv))])) tgt
          refine XS.iload X7.here hx rfl (hb hby at_495) rfl ?_
          show Steps p.tables e below (T7.setTop (mkF m 497 #[.val (.int xb), .val (.int xf), .val (.int xt), .val (.ref ba), .val (.int fv), .val (.int tv), .val (.int (own_res ef tv 5 fv)), .val (.int lv), .val (.int (1 : Int32)), .val (.int lv), .val (.int (0 : Int32)), .val (.int (1 : Int32)), .val (.int vd)] [(.int (1 : Int32)), (.int fv), (.ref ba), (.int (own_res ef tv 5 fv))])) tgt
          refine XS.iadd X7.here hx rfl (hb hby at_497) rfl ?_
          show Steps p.tables e below (T7.setTop (mkF m 498 #[.val (.int xb), .val (.int xf), .val (.int xt), .val (.ref ba), .val (.int fv), .val (.int tv), .val (.int (own_res ef tv 5 fv)), .val (.int lv), .val (.int (1 : Int32)), .val (.int lv), .val (.int (0 : Int32)), .val (.int (1 : Int32)), .val (.int vd)] [(.int (fv + (1 : Int32))), (.ref ba), (.int (own_res ef tv 5 fv))])) tgt
          refine XS.iload X7.here hx rfl (hb hby at_498) rfl ?_
          exact k
        obtain ⟨v10, _, ⟨T10, L10, k10, n10⟩, -, Xc10, ⟨Lc10, hQ10, l10, y10, z10⟩, st10⟩ := Jvm.LawKit.callS X7 hx (y := (⟨"com/example/vestwright/vestwright/input/Utf8", "firstNotUtf8", "([BII)I"⟩ : MethodName)) hown (mvT hZ (hw _ (List.mem_of_getElem? (i := 2) rfl))) (mvT hZ (hw _ (List.mem_of_getElem? (i := 3) rfl))) (mvT hZ (hw _ (List.mem_of_getElem? (i := 4) rfl))) (mvT hZ (hw _ (List.mem_of_getElem? (i := 5) rfl))) (by decide) (backOf (W := 1) (rm1 l Z a0 hw [] ba (fv + (1 : Int32)) tv ef 4 h5 n0 Zs5 Ag_ba_6 (by rw [a1]; omega) (by rw [a1]; omega) ht0.2 (by rw [a1]; omega)) hZ (hw _ (List.mem_of_getElem? (i := 5) rfl)) (hw _ (List.mem_of_getElem? (i := 4) rfl)) (by decide) (by decide)) (g := (mkF m 500 #[.val (.int xb), .val (.int xf), .val (.int xt), .val (.ref ba), .val (.int fv), .val (.int tv), .val (.int (own_res ef tv 5 fv)), .val (.int lv), .val (.int (1 : Int32)), .val (.int lv), .val (.int (0 : Int32)), .val (.int (1 : Int32)), .val (.int vd)] [(.int tv), (.int (fv + (1 : Int32))), (.ref ba), (.int (own_res ef tv 5 fv))])) rfl (by rw [hml]; rfl) (argsL := [(.ref ba), (.int (fv + (1 : Int32))), (.int tv)]) (rest := [(.int (own_res ef tv 5 fv))]) (lenOf pd_0_0 rfl) rfl (by show 2 * 0 + _ ≤ _; exact Nat.le_of_eq rfl) (hb hby at_500) (fun _ _ => ⟨rfl, K7, (by decide : 1 + 0 ≤ _), (by decide : 4 + 0 ≤ _)⟩)
        dsimp only [Pt.U, Pt.locs, Pt.cells, Pt.slots] at Xc10 l10 y10 z10 st10 hQ10
        have X10 := own_cast Xc10 l10 y10 z10
        obtain ⟨ev10, N10q, K10⟩ := hQ10
        rw [ev10] at st10
        have N10 := Fr.app N7 N10q
        refine own_st st10 ?_
        show own_Go p e below _ (T10.setTop (mkF m 503 #[.val (.int xb), .val (.int xf), .val (.int xt), .val (.ref ba), .val (.int fv), .val (.int tv), .val (.int (own_res ef tv 5 fv)), .val (.int lv), .val (.int (1 : Int32)), .val (.int lv), .val (.int (0 : Int32)), .val (.int (1 : Int32)), .val (.int vd)] [(.int (own_res ef tv 4 (fv + (1 : Int32)))), (.int (own_res ef tv 5 fv))]))
        refine own_st (V := T10.setTop (mkF m 511 #[.val (.int xb), .val (.int xf), .val (.int xt), .val (.ref ba), .val (.int fv), .val (.int tv), .val (.int (own_res ef tv 5 fv)), .val (.int lv), .val (.int (1 : Int32)), .val (.int lv), .val (.int (0 : Int32)), .val (.int (1 : Int32)), .val (.int vd)] [(.int (1 : Int32))])) (fun tgt k => ?_) ?_
        · show Steps p.tables e below (T10.setTop (mkF m 503 #[.val (.int xb), .val (.int xf), .val (.int xt), .val (.ref ba), .val (.int fv), .val (.int tv), .val (.int (own_res ef tv 5 fv)), .val (.int lv), .val (.int (1 : Int32)), .val (.int lv), .val (.int (0 : Int32)), .val (.int (1 : Int32)), .val (.int vd)] [(.int (own_res ef tv 4 (fv + (1 : Int32)))), (.int (own_res ef tv 5 fv))])) tgt
          refine XS.icmpNo X10.here hx rfl (hb hby at_503) rfl (teq (own_good hlt (by unfold own_S; rw [← hlv]; exact (own_v1 hc99 hl0 hvd).2 hc474) (by decide))).2 ?_
          show Steps p.tables e below (T10.setTop (mkF m 506 #[.val (.int xb), .val (.int xf), .val (.int xt), .val (.ref ba), .val (.int fv), .val (.int tv), .val (.int (own_res ef tv 5 fv)), .val (.int lv), .val (.int (1 : Int32)), .val (.int lv), .val (.int (0 : Int32)), .val (.int (1 : Int32)), .val (.int vd)] [])) tgt
          refine XS.iconst X10.here hx rfl (hb hby at_506) ?_
          show Steps p.tables e below (T10.setTop (mkF m 507 #[.val (.int xb), .val (.int xf), .val (.int xt), .val (.ref ba), .val (.int fv), .val (.int tv), .val (.int (own_res ef tv 5 fv)), .val (.int lv), .val (.int (1 : Int32)), .val (.int lv), .val (.int (0 : Int32)), .val (.int (1 : Int32)), .val (.int vd)] [(.int (1 : Int32))])) tgt
          refine XS.goto X10.here hx rfl (pc0 := 507) (pc' := 511) rfl (hb hby at_507) (by decide) (by decide) ?_
          exact k
        refine own_retN X10 hx hlk (t := .boolean) (z' := (1 : Int32)) Bd.returns (by simp) rfl (hb hby at_511) ?_ (by decide) (by decide)
        show Q0 Z xb xf xt h0 n0 (some (.int (1 : Int32))) T10.heap _
        rw [K10]
        exact ⟨rfl, N10⟩
    · skip
      refine own_st (V := T7.setTop (mkF m 113 #[.val (.int xb), .val (.int xf), .val (.int xt), .val (.ref ba), .val (.int fv), .val (.int tv), .val (.int (own_res ef tv 5 fv)), .val (.int lv), .unset, .unset, .unset, .unset, .unset] [(.int (192 : Int32)), (.int lv)])) (fun tgt k => ?_) ?_
      · show Steps p.tables e below (T7.setTop (mkF m 99 #[.val (.int xb), .val (.int xf), .val (.int xt), .val (.ref ba), .val (.int fv), .val (.int tv), .val (.int (own_res ef tv 5 fv)), .val (.int lv), .unset, .unset, .unset, .unset, .unset] [(.int (128 : Int32)), (.int lv)])) tgt
        refine XS.icmpYes X7.here hx rfl (pc0 := 99) (pc' := 108) rfl (hb hby at_99) rfl (flt hc99).2.1 (by decide) (by decide) ?_
        show Steps p.tables e below (T7.setTop (mkF m 108 #[.val (.int xb), .val (.int xf), .val (.int xt), .val (.ref ba), .val (.int fv), .val (.int tv), .val (.int (own_res ef tv 5 fv)), .val (.int lv), .unset, .unset, .unset, .unset, .unset] [])) tgt
        refine XS.iload X7.here hx rfl (hb hby at_108) rfl ?_
        show Steps p.tables e below (T7.setTop (mkF m 110 #[.val (.int xb), .val (.int xf), .val (.int xt), .val (.ref ba), .val (.int fv), .val (.int tv), .val (.int (own_res ef tv 5 fv)), .val (.int lv), .unset, .unset, .unset, .unset, .unset] [(.int lv)])) tgt
        refine XS.sipush X7.here hx rfl (hb hby at_110) ?_
        exact k
      by_cases hc113 : lv < (192 : Int32)
      · skip
        refine own_st (V := T7.setTop (mkF m 194 #[.val (.int xb), .val (.int xf), .val (.int xt), .val (.ref ba), .val (.int fv), .val (.int tv), .val (.int (own_res ef tv 5 fv)), .val (.int lv), .val (.int (0 : Int32)), .unset, .unset, .unset, .unset] [(.int (1 : Int32))])) (fun tgt k => ?_) ?_
        · show Steps p.tables e below (T7.setTop (mkF m 113 #[.val (.int xb), .val (.int xf), .val (.int xt), .val (.ref ba), .val (.int fv), .val (.int tv), .val (.int (own_res ef tv 5 fv)), .val (.int lv), .unset, .unset, .unset, .unset, .unset] [(.int (192 : Int32)), (.int lv)])) tgt
          refine XS.icmpNo X7.here hx rfl (hb hby at_113) rfl (tlt hc113).2.1 ?_
          show Steps p.tables e below (T7.setTop (mkF m 116 #[.val (.int xb), .val (.int xf), .val (.int xt), .val (.ref ba), .val (.int fv), .val (.int tv), .val (.int (own_res ef tv 5 fv)), .val (.int lv), .unset, .unset, .unset, .unset, .unset] [])) tgt
          refine XS.iconst X7.here hx rfl (hb hby at_116) ?_
          show Steps p.tables e below (T7.setTop (mkF m 117 #[.val (.int xb), .val (.int xf), .val (.int xt), .val (.ref ba), .val (.int fv), .val (.int tv), .val (.int (own_res ef tv 5 fv)), .val (.int lv), .unset, .unset, .unset, .unset, .unset] [(.int (0 : Int32))])) tgt
          refine XS.istore X7.here hx rfl (hb hby at_117) rfl (l' := #[.val (.int xb), .val (.int xf), .val (.int xt), .val (.ref ba), .val (.int fv), .val (.int tv), .val (.int (own_res ef tv 5 fv)), .val (.int lv), .val (.int (0 : Int32)), .unset, .unset, .unset, .unset]) rfl ?_
          show Steps p.tables e below (T7.setTop (mkF m 119 #[.val (.int xb), .val (.int xf), .val (.int xt), .val (.ref ba), .val (.int fv), .val (.int tv), .val (.int (own_res ef tv 5 fv)), .val (.int lv), .val (.int (0 : Int32)), .unset, .unset, .unset, .unset] [])) tgt
          refine XS.goto X7.here hx rfl (pc0 := 119) (pc' := 167) rfl (hb hby at_119) (by decide) (by decide) ?_
          show Steps p.tables e below (T7.setTop (mkF m 167 #[.val (.int xb), .val (.int xf), .val (.int xt), .val (.ref ba), .val (.int fv), .val (.int tv), .val (.int (own_res ef tv 5 fv)), .val (.int lv), .val (.int (0 : Int32)), .unset, .unset, .unset, .unset] [])) tgt
          refine XS.iload X7.here hx rfl (hb hby at_167) rfl ?_
          show Steps p.tables e below (T7.setTop (mkF m 169 #[.val (.int xb), .val (.int xf), .val (.int xt), .val (.ref ba), .val (.int fv), .val (.int tv), .val (.int (own_res ef tv 5 fv)), .val (.int lv), .val (.int (0 : Int32)), .unset, .unset, .unset, .unset] [(.int (0 : Int32))])) tgt
          refine XS.ifYes X7.here hx rfl (pc0 := 169) (pc' := 182) rfl (hb hby at_169) rfl ((if0 _ _).trans (teq (by decide : (0 : Int32) = (0 : Int32))).1) (by decide) (by decide) ?_
          show Steps p.tables e below (T7.setTop (mkF m 182 #[.val (.int xb), .val (.int xf), .val (.int xt), .val (.ref ba), .val (.int fv), .val (.int tv), .val (.int (own_res ef tv 5 fv)), .val (.int lv), .val (.int (0 : Int32)), .unset, .unset, .unset, .unset] [])) tgt
          refine XS.iload X7.here hx rfl (hb hby at_182) rfl ?_
          show Steps p.tables e below (T7.setTop (mkF m 184 #[.val (.int xb), .val (.int xf), .val (.int xt), .val (.ref ba), .val (.int fv), .val (.int tv), .val (.int (own_res ef tv 5 fv)), .val (.int lv), .val (.int (0 : Int32)), .unset, .unset, .unset, .unset] [(.int (own_res ef tv 5 fv))])) tgt
          refine XS.iload X7.here hx rfl (hb hby at_184) rfl ?_
          show Steps p.tables e below (T7.setTop (mkF m 186 #[.val (.int xb), .val (.int xf), .val (.int xt), .val (.ref ba), .val (.int fv), .val (.int tv), .val (.int (own_res ef tv 5 fv)), .val (.int lv), .val (.int (0 : Int32)), .unset, .unset, .unset, .unset] [(.int fv), (.int (own_res ef tv 5 fv))])) tgt
          refine XS.icmpNo X7.here hx rfl (hb hby at_186) rfl (teq (own_bad hlt (by unfold own_S; rw [← hlv]; exact own_s0 hc99 hc113))).2 ?_
          show Steps p.tables e below (T7.setTop (mkF m 189 #[.val (.int xb), .val (.int xf), .val (.int xt), .val (.ref ba), .val (.int fv), .val (.int tv), .val (.int (own_res ef tv 5 fv)), .val (.int lv), .val (.int (0 : Int32)), .unset, .unset, .unset, .unset] [])) tgt
          refine XS.iconst X7.here hx rfl (hb hby at_189) ?_
          show Steps p.tables e below (T7.setTop (mkF m 190 #[.val (.int xb), .val (.int xf), .val (.int xt), .val (.ref ba), .val (.int fv), .val (.int tv), .val (.int (own_res ef tv 5 fv)), .val (.int lv), .val (.int (0 : Int32)), .unset, .unset, .unset, .unset] [(.int (1 : Int32))])) tgt
          refine XS.goto X7.here hx rfl (pc0 := 190) (pc' := 194) rfl (hb hby at_190) (by decide) (by decide) ?_
          exact k
        refine own_retN X7 hx hlk (t := .boolean) (z' := (1 : Int32)) Bd.returns (by simp) rfl (hb hby at_194) ?_ (by decide) (by decide)
        show Q0 Z xb xf xt h0 n0 (some (.int (1 : Int32))) T7.heap _
        rw [K7]
        exact ⟨rfl, N7⟩
      · skip
        refine own_st (V := T7.setTop (mkF m 127 #[.val (.int xb), .val (.int xf), .val (.int xt), .val (.ref ba), .val (.int fv), .val (.int tv), .val (.int (own_res ef tv 5 fv)), .val (.int lv), .unset, .unset, .unset, .unset, .unset] [(.int (224 : Int32)), (.int lv)])) (fun tgt k => ?_) ?_
        · show Steps p.tables e below (T7.setTop (mkF m 113 #[.val (.int xb), .val (.int xf), .val (.int xt), .val (.ref ba), .val (.int fv), .val (.int tv), .val (.int (own_res ef tv 5 fv)), .val (.int lv), .unset, .unset, .unset, .unset, .unset] [(.int (192 : Int32)), (.int lv)])) tgt
          refine XS.icmpYes X7.here hx rfl (pc0 := 113) (pc' := 122) rfl (hb hby at_113) rfl (flt hc113).2.1 (by decide) (by decide) ?_
          show Steps p.tables e below (T7.setTop (mkF m 122 #[.val (.int xb), .val (.int xf), .val (.int xt), .val (.ref ba), .val (.int fv), .val (.int tv), .val (.int (own_res ef tv 5 fv)), .val (.int lv), .unset, .unset, .unset, .unset, .unset] [])) tgt
          refine XS.iload X7.here hx rfl (hb hby at_122) rfl ?_
          show Steps p.tables e below (T7.setTop (mkF m 124 #[.val (.int xb), .val (.int xf), .val (.int xt), .val (.ref ba), .val (.int fv), .val (.int tv), .val (.int (own_res ef tv 5 fv)), .val (.int lv), .unset, .unset, .unset, .unset, .unset] [(.int lv)])) tgt
          refine XS.sipush X7.here hx rfl (hb hby at_124) ?_
          exact k
        by_cases hc127 : lv < (224 : Int32)
        · skip
          refine own_st (V := T7.setTop (mkF m 179 #[.val (.int xb), .val (.int xf), .val (.int xt), .val (.ref ba), .val (.int fv), .val (.int tv), .val (.int (own_res ef tv 5 fv)), .val (.int lv), .val (.int (2 : Int32)), .unset, .unset, .unset, .unset] [(.int tv), (.int (fv + (2 : Int32)))])) (fun tgt k => ?_) ?_
          · show Steps p.tables e below (T7.setTop (mkF m 127 #[.val (.int xb), .val (.int xf), .val (.int xt), .val (.ref ba), .val (.int fv), .val (.int tv), .val (.int (own_res ef tv 5 fv)), .val (.int lv), .unset, .unset, .unset, .unset, .unset] [(.int (224 : Int32)), (.int lv)])) tgt
            refine XS.icmpNo X7.here hx rfl (hb hby at_127) rfl (tlt hc127).2.1 ?_
            show Steps p.tables e below (T7.setTop (mkF m 130 #[.val (.int xb), .val (.int xf), .val (.int xt), .val (.ref ba), .val (.int fv), .val (.int tv), .val (.int (own_res ef tv 5 fv)), .val (.int lv), .unset, .unset, .unset, .unset, .unset] [])) tgt
            refine XS.iconst X7.here hx rfl (hb hby at_130) ?_
            show Steps p.tables e below (T7.setTop (mkF m 131 #[.val (.int xb), .val (.int xf), .val (.int xt), .val (.ref ba), .val (.int fv), .val (.int tv), .val (.int (own_res ef tv 5 fv)), .val (.int lv), .unset, .unset, .unset, .unset, .unset] [(.int (2 : Int32))])) tgt
            refine XS.istore X7.here hx rfl (hb hby at_131) rfl (l' := #[.val (.int xb), .val (.int xf), .val (.int xt), .val (.ref ba), .val (.int fv), .val (.int tv), .val (.int (own_res ef tv 5 fv)), .val (.int lv), .val (.int (2 : Int32)), .unset, .unset, .unset, .unset]) rfl ?_
            show Steps p.tables e below (T7.setTop (mkF m 133 #[.val (.int xb), .val (.int xf), .val (.int xt), .val (.ref ba), .val (.int fv), .val (.int tv), .val (.int (own_res ef tv 5 fv)), .val (.int lv), .val (.int (2 : Int32)), .unset, .unset, .unset, .unset] [])) tgt
            refine XS.goto X7.here hx rfl (pc0 := 133) (pc' := 167) rfl (hb hby at_133) (by decide) (by decide) ?_
            show Steps p.tables e below (T7.setTop (mkF m 167 #[.val (.int xb), .val (.int xf), .val (.int xt), .val (.ref ba), .val (.int fv), .val (.int tv), .val (.int (own_res ef tv 5 fv)), .val (.int lv), .val (.int (2 : Int32)), .unset, .unset, .unset, .unset] [])) tgt
            refine XS.iload X7.here hx rfl (hb hby at_167) rfl ?_
            show Steps p.tables e below (T7.setTop (mkF m 169 #[.val (.int xb), .val (.int xf), .val (.int xt), .val (.ref ba), .val (.int fv), .val (.int tv), .val (.int (own_res ef tv 5 fv)), .val (.int lv), .val (.int (2 : Int32)), .unset, .unset, .unset, .unset] [(.int (2 : Int32))])) tgt
            refine XS.ifNo X7.here hx rfl (hb hby at_169) rfl ((if0 _ _).trans (feq (by decide : ¬ ((2 : Int32) = (0 : Int32)))).1) ?_
            show Steps p.tables e below (T7.setTop (mkF m 172 #[.val (.int xb), .val (.int xf), .val (.int xt), .val (.ref ba), .val (.int fv), .val (.int tv), .val (.int (own_res ef tv 5 fv)), .val (.int lv), .val (.int (2 : Int32)), .unset, .unset, .unset, .unset] [])) tgt
            refine XS.iload X7.here hx rfl (hb hby at_172) rfl ?_
            show Steps p.tables e below (T7.setTop (mkF m 174 #[.val (.int xb), .val (.int xf), .val (.int xt), .val (.ref ba), .val (.int fv), .val (.int tv), .val (.int (own_res ef tv 5 fv)), .val (.int lv), .val (.int (2 : Int32)), .unset, .unset, .unset, .unset] [(.int fv)])) tgt
            refine XS.iload X7.here hx rfl (hb hby at_174) rfl ?_
            show Steps p.tables e below (T7.setTop (mkF m 176 #[.val (.int xb), .val (.int xf), .val (.int xt), .val (.ref ba), .val (.int fv), .val (.int tv), .val (.int (own_res ef tv 5 fv)), .val (.int lv), .val (.int (2 : Int32)), .unset, .unset, .unset, .unset] [(.int (2 : Int32)), (.int fv)])) tgt
            refine XS.iadd X7.here hx rfl (hb hby at_176) rfl ?_
            show Steps p.tables e below (T7.setTop (mkF m 177 #[.val (.int xb), .val (.int xf), .val (.int xt), .val (.ref ba), .val (.int fv), .val (.int tv), .val (.int (own_res ef tv 5 fv)), .val (.int lv), .val (.int (2 : Int32)), .unset, .unset, .unset, .unset] [(.int (fv + (2 : Int32)))])) tgt
            refine XS.iload X7.here hx rfl (hb hby at_177) rfl ?_
            exact k
          by_cases hc179 : tv < (fv + (2 : Int32))
          · skip
            refine own_st (V := T7.setTop (mkF m 194 #[.val (.int xb), .val (.int xf), .val (.int xt), .val (.ref ba), .val (.int fv), .val (.int tv), .val (.int (own_res ef tv 5 fv)), .val (.int lv), .val (.int (2 : Int32)), .unset, .unset, .unset, .unset] [(.int (1 : Int32))])) (fun tgt k => ?_) ?_
            · show Steps p.tables e below (T7.setTop (mkF m 179 #[.val (.int xb), .val (.int xf), .val (.int xt), .val (.ref ba), .val (.int fv), .val (.int tv), .val (.int (own_res ef tv 5 fv)), .val (.int lv), .val (.int (2 : Int32)), .unset, .unset, .unset, .unset] [(.int tv), (.int (fv + (2 : Int32)))])) tgt
              refine XS.icmpNo X7.here hx rfl (hb hby at_179) rfl (tlt hc179).2.2.2 ?_
              show Steps p.tables e below (T7.setTop (mkF m 182 #[.val (.int xb), .val (.int xf), .val (.int xt), .val (.ref ba), .val (.int fv), .val (.int tv), .val (.int (own_res ef tv 5 fv)), .val (.int lv), .val (.int (2 : Int32)), .unset, .unset, .unset, .unset] [])) tgt
              refine XS.iload X7.here hx rfl (hb hby at_182) rfl ?_
              show Steps p.tables e below (T7.setTop (mkF m 184 #[.val (.int xb), .val (.int xf), .val (.int xt), .val (.ref ba), .val (.int fv), .val (.int tv), .val (.int (own_res ef tv 5 fv)), .val (.int lv), .val (.int (2 : Int32)), .unset, .unset, .unset, .unset] [(.int (own_res ef tv 5 fv))])) tgt
              refine XS.iload X7.here hx rfl (hb hby at_184) rfl ?_
              show Steps p.tables e below (T7.setTop (mkF m 186 #[.val (.int xb), .val (.int xf), .val (.int xt), .val (.ref ba), .val (.int fv), .val (.int tv), .val (.int (own_res ef tv 5 fv)), .val (.int lv), .val (.int (2 : Int32)), .unset, .unset, .unset, .unset] [(.int fv), (.int (own_res ef tv 5 fv))])) tgt
              refine XS.icmpNo X7.here hx rfl (hb hby at_186) rfl (teq (own_bad hlt (by unfold own_S; rw [← hlv]; exact own_u2 hc113 hc127 hc179))).2 ?_
              show Steps p.tables e below (T7.setTop (mkF m 189 #[.val (.int xb), .val (.int xf), .val (.int xt), .val (.ref ba), .val (.int fv), .val (.int tv), .val (.int (own_res ef tv 5 fv)), .val (.int lv), .val (.int (2 : Int32)), .unset, .unset, .unset, .unset] [])) tgt
              refine XS.iconst X7.here hx rfl (hb hby at_189) ?_
              show Steps p.tables e below (T7.setTop (mkF m 190 #[.val (.int xb), .val (.int xf), .val (.int xt), .val (.ref ba), .val (.int fv), .val (.int tv), .val (.int (own_res ef tv 5 fv)), .val (.int lv), .val (.int (2 : Int32)), .unset, .unset, .unset, .unset] [(.int (1 : Int32))])) tgt
              refine XS.goto X7.here hx rfl (pc0 := 190) (pc' := 194) rfl (hb hby at_190) (by decide) (by decide) ?_
              exact k
            refine own_retN X7 hx hlk (t := .boolean) (z' := (1 : Int32)) Bd.returns (by simp) rfl (hb hby at_194) ?_ (by decide) (by decide)
            show Q0 Z xb xf xt h0 n0 (some (.int (1 : Int32))) T7.heap _
            rw [K7]
            exact ⟨rfl, N7⟩
          · skip
            refine own_st (V := T7.setTop (mkF m 195 #[.val (.int xb), .val (.int xf), .val (.int xt), .val (.ref ba), .val (.int fv), .val (.int tv), .val (.int (own_res ef tv 5 fv)), .val (.int lv), .val (.int (2 : Int32)), .unset, .unset, .unset, .unset] [])) (fun tgt k => ?_) ?_
            · show Steps p.tables e below (T7.setTop (mkF m 179 #[.val (.int xb), .val (.int xf), .val (.int xt), .val (.ref ba), .val (.int fv), .val (.int tv), .val (.int (own_res ef tv 5 fv)), .val (.int lv), .val (.int (2 : Int32)), .unset, .unset, .unset, .unset] [(.int tv), (.int (fv + (2 : Int32)))])) tgt
              refine XS.icmpYes X7.here hx rfl (pc0 := 179) (pc' := 195) rfl (hb hby at_179) rfl (flt hc179).2.2.2 (by decide) (by decide) ?_
              exact k
            have hfit : fv.toInt + 2 ≤ tv.toInt := by rw [own_ilt, a2] at hc179; omega
            refine own_st (V := T7.setTop (mkF m 285 #[.val (.int xb), .val (.int xf), .val (.int xt), .val (.ref ba), .val (.int fv), .val (.int tv), .val (.int (own_res ef tv 5 fv)), .val (.int lv), .val (.int (2 : Int32)), .val (.int (lv &&& (31 : Int32))), .val (.int (128 : Int32)), .val (.int (1 : Int32)), .val (.int ((ef (fv.toInt.toNat + 1)) &&& (255 : Int32)))] [])) (fun tgt k => ?_) ?_
            · show Steps p.tables e below (T7.setTop (mkF m 195 #[.val (.int xb), .val (.int xf), .val (.int xt), .val (.ref ba), .val (.int fv), .val (.int tv), .val (.int (own_res ef tv 5 fv)), .val (.int lv), .val (.int (2 : Int32)), .unset, .unset, .unset, .unset] [])) tgt
              refine XS.iload X7.here hx rfl (hb hby at_195) rfl ?_
              show Steps p.tables e below (T7.setTop (mkF m 197 #[.val (.int xb), .val (.int xf), .val (.int xt), .val (.ref ba), .val (.int fv), .val (.int tv), .val (.int (own_res ef tv 5 fv)), .val (.int lv), .val (.int (2 : Int32)), .unset, .unset, .unset, .unset] [(.int (2 : Int32))])) tgt
              refine XS.iconst X7.here hx rfl (hb hby at_197) ?_
              show Steps p.tables e below (T7.setTop (mkF m 198 #[.val (.int xb), .val (.int xf), .val (.int xt), .val (.ref ba), .val (.int fv), .val (.int tv), .val (.int (own_res ef tv 5 fv)), .val (.int lv), .val (.int (2 : Int32)), .unset, .unset, .unset, .unset] [(.int (1 : Int32)), (.int (2 : Int32))])) tgt
              refine XS.icmpYes X7.here hx rfl (pc0 := 198) (pc' := 211) rfl (hb hby at_198) rfl (feq (by decide : ¬ ((2 : Int32) = (1 : Int32)))).2 (by decide) (by decide) ?_
              show Steps p.tables e below (T7.setTop (mkF m 211 #[.val (.int xb), .val (.int xf), .val (.int xt), .val (.ref ba), .val (.int fv), .val (.int tv), .val (.int (own_res ef tv 5 fv)), .val (.int lv), .val (.int (2 : Int32)), .unset, .unset, .unset, .unset] [])) tgt
              refine XS.iload X7.here hx rfl (hb hby at_211) rfl ?_
              show Steps p.tables e below (T7.setTop (mkF m 213 #[.val (.int xb), .val (.int xf), .val (.int xt), .val (.ref ba), .val (.int fv), .val (.int tv), .val (.int (own_res ef tv 5 fv)), .val (.int lv), .val (.int (2 : Int32)), .unset, .unset, .unset, .unset] [(.int (2 : Int32))])) tgt
              refine XS.iconst X7.here hx rfl (hb hby at_213) ?_
              show Steps p.tables e below (T7.setTop (mkF m 214 #[.val (.int xb), .val (.int xf), .val (.int xt), .val (.ref ba), .val (.int fv), .val (.int tv), .val (.int (own_res ef tv 5 fv)), .val (.int lv), .val (.int (2 : Int32)), .unset, .unset, .unset, .unset] [(.int (2 : Int32)), (.int (2 : Int32))])) tgt
              refine XS.icmpNo X7.here hx rfl (hb hby at_214) rfl (teq (by decide : (2 : Int32) = (2 : Int32))).2 ?_
              show Steps p.tables e below (T7.setTop (mkF m 217 #[.val (.int xb), .val (.int xf), .val (.int xt), .val (.ref ba), .val (.int fv), .val (.int tv), .val (.int (own_res ef tv 5 fv)), .val (.int lv), .val (.int (2 : Int32)), .unset, .unset, .unset, .unset] [])) tgt
              refine XS.iload X7.here hx rfl (hb hby at_217) rfl ?_
              show Steps p.tables e below (T7.setTop (mkF m 219 #[.val (.int xb), .val (.int xf), .val (.int xt), .val (.ref ba), .val (.int fv), .val (.int tv), .val (.int (own_res ef tv 5 fv)), .val (.int lv), .val (.int (2 : Int32)), .unset, .unset, .unset, .unset] [(.int lv)])) tgt
              refine XS.bipush X7.here hx rfl (hb hby at_219) ?_
              show Steps p.tables e below (T7.setTop (mkF m 221 #[.val (.int xb), .val (.int xf), .val (.int xt), .val (.ref ba), .val (.int fv), .val (.int tv), .val (.int (own_res ef tv 5 fv)), .val (.int lv), .val (.int (2 : Int32)), .unset, .unset, .unset, .unset] [(.int (31 : Int32)), (.int lv)])) tgt
              refine XS.iand X7.here hx rfl (hb hby at_221) rfl ?_
              show Steps p.tables e below (T7.setTop (mkF m 222 #[.val (.int xb), .val (.int xf), .val (.int xt), .val (.ref ba), .val (.int fv), .val (.int tv), .val (.int (own_res ef tv 5 fv)), .val (.int lv), .val (.int (2 : Int32)), .unset, .unset, .unset, .unset] [(.int (lv &&& (31 : Int32)))])) tgt
              refine XS.istore X7.here hx rfl (hb hby at_222) rfl (l' := #[.val (.int xb), .val (.int xf), .val (.int xt), .val (.ref ba), .val (.int fv), .val (.int tv), .val (.int (own_res ef tv 5 fv)), .val (.int lv), .val (.int (2 : Int32)), .val (.int (lv &&& (31 : Int32))), .unset, .unset, .unset]) rfl ?_
              show Steps p.tables e below (T7.setTop (mkF m 224 #[.val (.int xb), .val (.int xf), .val (.int xt), .val (.ref ba), .val (.int fv), .val (.int tv), .val (.int (own_res ef tv 5 fv)), .val (.int lv), .val (.int (2 : Int32)), .val (.int (lv &&& (31 : Int32))), .unset, .unset, .unset] [])) tgt
              refine XS.sipush X7.here hx rfl (hb hby at_224) ?_
              show Steps p.tables e below (T7.setTop (mkF m 227 #[.val (.int xb), .val (.int xf), .val (.int xt), .val (.ref ba), .val (.int fv), .val (.int tv), .val (.int (own_res ef tv 5 fv)), .val (.int lv), .val (.int (2 : Int32)), .val (.int (lv &&& (31 : Int32))), .unset, .unset, .unset] [(.int (128 : Int32))])) tgt
              refine XS.istore X7.here hx rfl (hb hby at_227) rfl (l' := #[.val (.int xb), .val (.int xf), .val (.int xt), .val (.ref ba), .val (.int fv), .val (.int tv), .val (.int (own_res ef tv 5 fv)), .val (.int lv), .val (.int (2 : Int32)), .val (.int (lv &&& (31 : Int32))), .val (.int (128 : Int32)), .unset, .unset]) rfl ?_
              show Steps p.tables e below (T7.setTop (mkF m 229 #[.val (.int xb), .val (.int xf), .val (.int xt), .val (.ref ba), .val (.int fv), .val (.int tv), .val (.int (own_res ef tv 5 fv)), .val (.int lv), .val (.int (2 : Int32)), .val (.int (lv &&& (31 : Int32))), .val (.int (128 : Int32)), .unset, .unset] [])) tgt
              refine XS.goto X7.here hx rfl (pc0 := 229) (pc' := 264) rfl (hb hby at_229) (by decide) (by decide) ?_
              show Steps p.tables e below (T7.setTop (mkF m 264 #[.val (.int xb), .val (.int xf), .val (.int xt), .val (.ref ba), .val (.int fv), .val (.int tv), .val (.int (own_res ef tv 5 fv)), .val (.int lv), .val (.int (2 : Int32)), .val (.int (lv &&& (31 : Int32))), .val (.int (128 : Int32)), .unset, .unset] [])) tgt
              refine XS.iconst X7.here hx rfl (hb hby at_264) ?_
              show Steps p.tables e below (T7.setTop (mkF m 265 #[.val (.int xb), .val (.int xf), .val (.int xt), .val (.ref ba), .val (.int fv), .val (.int tv), .val (.int (own_res ef tv 5 fv)), .val (.int lv), .val (.int (2 : Int32)), .val (.int (lv &&& (31 : Int32))), .val (.int (128 : Int32)), .unset, .unset] [(.int (1 : Int32))])) tgt
              refine XS.istore X7.here hx rfl (hb hby at_265) rfl (l' := #[.val (.int xb), .val (.int xf), .val (.int xt), .val (.ref ba), .val (.int fv), .val (.int tv), .val (.int (own_res ef tv 5 fv)), .val (.int lv), .val (.int (2 : Int32)), .val (.int (lv &&& (31 : Int32))), .val (.int (128 : Int32)), .val (.int (1 : Int32)), .unset]) rfl ?_
              show Steps p.tables e below (T7.setTop (mkF m 267 #[.val (.int xb), .val (.int xf), .val (.int xt), .val (.ref ba), .val (.int fv), .val (.int tv), .val (.int (own_res ef tv 5 fv)), .val (.int lv), .val (.int (2 : Int32)), .val (.int (lv &&& (31 : Int32))), .val (.int (128 : Int32)), .val (.int (1 : Int32)), .unset] [])) tgt
              refine XS.iload X7.here hx rfl (hb hby at_267) rfl ?_
              show Steps p.tables e below (T7.setTop (mkF m 269 #[.val (.int xb), .val (.int xf), .val (.int xt), .val (.ref ba), .val (.int fv), .val (.int tv), .val (.int (own_res ef tv 5 fv)), .val (.int lv), .val (.int (2 : Int32)), .val (.int (lv &&& (31 : Int32))), .val (.int (128 : Int32)), .val (.int (1 : Int32)), .unset] [(.int (2 : Int32))])) tgt
              refine XS.iconst X7.here hx rfl (hb hby at_269) ?_
              show Steps p.tables e below (T7.setTop (mkF m 270 #[.val (.int xb), .val (.int xf), .val (.int xt), .val (.ref ba), .val (.int fv), .val (.int tv), .val (.int (own_res ef tv 5 fv)), .val (.int lv), .val (.int (2 : Int32)), .val (.int (lv &&& (31 : Int32))), .val (.int (128 : Int32)), .val (.int (1 : Int32)), .unset] [(.int (2 : Int32)), (.int (2 : Int32))])) tgt
              refine XS.icmpNo X7.here hx rfl (hb hby at_270) rfl (flt (by decide : ¬ ((2 : Int32) < (2 : Int32)))).1 ?_
              show Steps p.tables e below (T7.setTop (mkF m 273 #[.val (.int xb), .val (.int xf), .val (.int xt), .val (.ref ba), .val (.int fv), .val (.int tv), .val (.int (own_res ef tv 5 fv)), .val (.int lv), .val (.int (2 : Int32)), .val (.int (lv &&& (31 : Int32))), .val (.int (128 : Int32)), .val (.int (1 : Int32)), .unset] [])) tgt
              refine XS.aloadN X7.here hx rfl (hb hby at_273) rfl rfl ?_
              show Steps p.tables e below (T7.setTop (mkF m 274 #[.val (.int xb), .val (.int xf), .val (.int xt), .val (.ref ba), .val (.int fv), .val (.int tv), .val (.int (own_res ef tv 5 fv)), .val (.int lv), .val (.int (2 : Int32)), .val (.int (lv &&& (31 : Int32))), .val (.int (128 : Int32)), .val (.int (1 : Int32)), .unset] [(.ref ba)])) tgt
              refine XS.iload X7.here hx rfl (hb hby at_274) rfl ?_
              show Steps p.tables e below (T7.setTop (mkF m 276 #[.val (.int xb), .val (.int xf), .val (.int xt), .val (.ref ba), .val (.int fv), .val (.int tv), .val (.int (own_res ef tv 5 fv)), .val (.int lv), .val (.int (2 : Int32)), .val (.int (lv &&& (31 : Int32))), .val (.int (128 : Int32)), .val (.int (1 : Int32)), .unset] [(.int fv), (.ref ba)])) tgt
              refine XS.iconst X7.here hx rfl (hb hby at_276) ?_
              show Steps p.tables e below (T7.setTop (mkF m 277 #[.val (.int xb), .val (.int xf), .val (.int xt), .val (.ref ba), .val (.int fv), .val (.int tv), .val (.int (own_res ef tv 5 fv)), .val (.int lv), .val (.int (2 : Int32)), .val (.int (lv &&& (31 : Int32))), .val (.int (128 : Int32)), .val (.int (1 : Int32)), .unset] [(.int (1 : Int32)), (.int fv), (.ref ba)])) tgt
              refine XS.iadd X7.here hx rfl (hb hby at_277) rfl ?_
              show Steps p.tables e below (T7.setTop (mkF m 278 #[.val (.int xb), .val (.int xf), .val (.int xt), .val (.ref ba), .val (.int fv), .val (.int tv), .val (.int (own_res ef tv 5 fv)), .val (.int lv), .val (.int (2 : Int32)), .val (.int (lv &&& (31 : Int32))), .val (.int (128 : Int32)), .val (.int (1 : Int32)), .unset] [(.int (fv + (1 : Int32))), (.ref ba)])) tgt
              refine own_baload X7 hx hZ K7 Ag_ba_6 (j := (fv + (1 : Int32))) (k := (fv.toInt.toNat + 1)) a1 (by omega) (g := (mkF m 278 #[.val (.int xb), .val (.int xf), .val (.int xt), .val (.ref ba), .val (.int fv), .val (.int tv), .val (.int (own_res ef tv 5 fv)), .val (.int lv), .val (.int (2 : Int32)), .val (.int (lv &&& (31 : Int32))), .val (.int (128 : Int32)), .val (.int (1 : Int32)), .unset] [(.int (fv + (1 : Int32))), (.ref ba)])) rfl rfl (hb hby at_278) ?_
              show Steps p.tables e below (T7.setTop (mkF m 279 #[.val (.int xb), .val (.int xf), .val (.int xt), .val (.ref ba), .val (.int fv), .val (.int tv), .val (.int (own_res ef tv 5 fv)), .val (.int lv), .val (.int (2 : Int32)), .val (.int (lv &&& (31 : Int32))), .val (.int (128 : Int32)), .val (.int (1 : Int32)), .unset] [(.int (ef (fv.toInt.toNat + 1)))])) tgt
              refine XS.sipush X7.here hx rfl (hb hby at_279) ?_
              show Steps p.tables e below (T7.setTop (mkF m 282 #[.val (.int xb), .val (.int xf), .val (.int xt), .val (.ref ba), .val (.int fv), .val (.int tv), .val (.int (own_res ef tv 5 fv)), .val (.int lv), .val (.int (2 : Int32)), .val (.int (lv &&& (31 : Int32))), .val (.int (128 : Int32)), .val (.int (1 : Int32)), .unset] [(.int (255 : Int32)), (.int (ef (fv.toInt.toNat + 1)))])) tgt
              refine XS.iand X7.here hx rfl (hb hby at_282) rfl ?_
              show Steps p.tables e below (T7.setTop (mkF m 283 #[.val (.int xb), .val (.int xf), .val (.int xt), .val (.ref ba), .val (.int fv), .val (.int tv), .val (.int (own_res ef tv 5 fv)), .val (.int lv), .val (.int (2 : Int32)), .val (.int (lv &&& (31 : Int32))), .val (.int (128 : Int32)), .val (.int (1 : Int32)), .unset] [(.int ((ef (fv.toInt.toNat + 1)) &&& (255 : Int32)))])) tgt
              refine XS.istore X7.here hx rfl (hb hby at_283) rfl (l' := #[.val (.int xb), .val (.int xf), .val (.int xt), .val (.ref ba), .val (.int fv), .val (.int tv), .val (.int (own_res ef tv 5 fv)), .val (.int lv), .val (.int (2 : Int32)), .val (.int (lv &&& (31 : Int32))), .val (.int (128 : Int32)), .val (.int (1 : Int32)), .val (.int ((ef (fv.toInt.toNat + 1)) &&& (255 : Int32)))]) rfl ?_
              exact k
            obtain ⟨c1, hc1⟩ : ∃ z : Int32, z = ((ef (fv.toInt.toNat + 1)) &&& (255 : Int32)) := ⟨_, rfl⟩
            rw [← hc1]
            have hr1 : 0 ≤ c1.toInt ∧ c1.toInt ≤ 255 := by rw [hc1]; exact own_b255 _
            refine own_st (V := T7.setTop (mkF m 299 #[.val (.int xb), .val (.int xf), .val (.int xt), .val (.ref ba), .val (.int fv), .val (.int tv), .val (.int (own_res ef tv 5 fv)), .val (.int lv), .val (.int (2 : Int32)), .val (.int (lv &&& (31 : Int32))), .val (.int (128 : Int32)), .val (.int (1 : Int32)), .val (.int c1)] [(.int (128 : Int32)), (.int (c1 &&& (192 : Int32)))])) (fun tgt k => ?_) ?_
            · show Steps p.tables e below (T7.setTop (mkF m 285 #[.val (.int xb), .val (.int xf), .val (.int xt), .val (.ref ba), .val (.int fv), .val (.int tv), .val (.int (own_res ef tv 5 fv)), .val (.int lv), .val (.int (2 : Int32)), .val (.int (lv &&& (31 : Int32))), .val (.int (128 : Int32)), .val (.int (1 : Int32)), .val (.int c1)] [])) tgt
              refine XS.iload X7.here hx rfl (hb hby at_285) rfl ?_
              show Steps p.tables e below (T7.setTop (mkF m 287 #[.val (.int xb), .val (.int xf), .val (.int xt), .val (.ref ba), .val (.int fv), .val (.int tv), .val (.int (own_res ef tv 5 fv)), .val (.int lv), .val (.int (2 : Int32)), .val (.int (lv &&& (31 : Int32))), .val (.int (128 : Int32)), .val (.int (1 : Int32)), .val (.int c1)] [(.int (1 : Int32))])) tgt
              refine XS.ifNo X7.here hx rfl (hb hby at_287) rfl ((if0 _ _).trans (feq (by decide : ¬ ((1 : Int32) = (0 : Int32)))).1) ?_
              show Steps p.tables e below (T7.setTop (mkF m 290 #[.val (.int xb), .val (.int xf), .val (.int xt), .val (.ref ba), .val (.int fv), .val (.int tv), .val (.int (own_res ef tv 5 fv)), .val (.int lv), .val (.int (2 : Int32)), .val (.int (lv &&& (31 : Int32))), .val (.int (128 : Int32)), .val (.int (1 : Int32)), .val (.int c1)] [])) tgt
              refine XS.iload X7.here hx rfl (hb hby at_290) rfl ?_
              show Steps p.tables e below (T7.setTop (mkF m 292 #[.val (.int xb), .val (.int xf), .val (.int xt), .val (.ref ba), .val (.int fv), .val (.int tv), .val (.int (own_res ef tv 5 fv)), .val (.int lv), .val (.int (2 : Int32)), .val (.int (lv &&& (31 : Int32))), .val (.int (128 : Int32)), .val (.int (1 : Int32)), .val (.int c1)] [(.int c1)])) tgt
              refine XS.sipush X7.here hx rfl (hb hby at_292) ?_
              show Steps p.tables e below (T7.setTop (mkF m 295 #[.val (.int xb), .val (.int xf), .val (.int xt), .val (.ref ba), .val (.int fv), .val (.int tv), .val (.int (own_res ef tv 5 fv)), .val (.int lv), .val (.int (2 : Int32)), .val (.int (lv &&& (31 : Int32))), .val (.int (128 : Int32)), .val (.int (1 : Int32)), .val (.int c1)] [(.int (192 : Int32)), (.int c1)])) tgt
              refine XS.iand X7.here hx rfl (hb hby at_295) rfl ?_
              show Steps p.tables e below (T7.setTop (mkF m 296 #[.val (.int xb), .val (.int xf), .val (.int xt), .val (.ref ba), .val (.int fv), .val (.int tv), .val (.int (own_res ef tv 5 fv)), .val (.int lv), .val (.int (2 : Int32)), .val (.int (lv &&& (31 : Int32))), .val (.int (128 : Int32)), .val (.int (1 : Int32)), .val (.int c1)] [(.int (c1 &&& (192 : Int32)))])) tgt
              refine XS.sipush X7.here hx rfl (hb hby at_296) ?_
              exact k
            obtain ⟨k1, hk1⟩ : ∃ z : Int32, z = (if (c1 &&& (192 : Int32)) = (128 : Int32) then (1 : Int32) else (0 : Int32)) := ⟨_, rfl⟩
            refine own_st (V := T7.setTop (mkF m 307 #[.val (.int xb), .val (.int xf), .val (.int xt), .val (.ref ba), .val (.int fv), .val (.int tv), .val (.int (own_res ef tv 5 fv)), .val (.int lv), .val (.int (2 : Int32)), .val (.int (lv &&& (31 : Int32))), .val (.int (128 : Int32)), .val (.int (1 : Int32)), .val (.int c1)] [(.int k1)])) (fun tgt k => ?_) ?_
            · skip
              by_cases hc299_2 : (c1 &&& (192 : Int32)) = (128 : Int32)
              · skip
                rw [if_pos hc299_2] at hk1
                show Steps p.tables e below (T7.setTop (mkF m 299 #[.val (.int xb), .val (.int xf), .val (.int xt), .val (.ref ba), .val (.int fv), .val (.int tv), .val (.int (own_res ef tv 5 fv)), .val (.int lv), .val (.int (2 : Int32)), .val (.int (lv &&& (31 : Int32))), .val (.int (128 : Int32)), .val (.int (1 : Int32)), .val (.int c1)] [(.int (128 : Int32)), (.int (c1 &&& (192 : Int32)))])) tgt
                refine XS.icmpNo X7.here hx rfl (hb hby at_299) rfl (teq hc299_2).2 ?_
                show Steps p.tables e below (T7.setTop (mkF m 302 #[.val (.int xb), .val (.int xf), .val (.int xt), .val (.ref ba), .val (.int fv), .val (.int tv), .val (.int (own_res ef tv 5 fv)), .val (.int lv), .val (.int (2 : Int32)), .val (.int (lv &&& (31 : Int32))), .val (.int (128 : Int32)), .val (.int (1 : Int32)), .val (.int c1)] [])) tgt
                refine XS.iconst X7.here hx rfl (hb hby at_302) ?_
                show Steps p.tables e below (T7.setTop (mkF m 303 #[.val (.int xb), .val (.int xf), .val (.int xt), .val (.ref ba), .val (.int fv), .val (.int tv), .val (.int (own_res ef tv 5 fv)), .val (.int lv), .val (.int (2 : Int32)), .val (.int (lv &&& (31 : Int32))), .val (.int (128 : Int32)), .val (.int (1 : Int32)), .val (.int c1)] [(.int (1 : Int32))])) tgt
                refine XS.goto X7.here hx rfl (pc0 := 303) (pc' := 307) rfl (hb hby at_303) (by decide) (by decide) ?_
                rw [hk1] at k
                exact k
              · skip
                rw [if_neg hc299_2] at hk1
                show Steps p.tables e below (T7.setTop (mkF m 299 #[.val (.int xb), .val (.int xf), .val (.int xt), .val (.ref ba), .val (.int fv), .val (.int tv), .val (.int (own_res ef tv 5 fv)), .val (.int lv), .val (.int (2 : Int32)), .val (.int (lv &&& (31 : Int32))), .val (.int (128 : Int32)), .val (.int (1 : Int32)), .val (.int c1)] [(.int (128 : Int32)), (.int (c1 &&& (192 : Int32)))])) tgt
                refine XS.icmpYes X7.here hx rfl (pc0 := 299) (pc' := 306) rfl (hb hby at_299) rfl (feq hc299_2).2 (by decide) (by decide) ?_
                show Steps p.tables e below (T7.setTop (mkF m 306 #[.val (.int xb), .val (.int xf), .val (.int xt), .val (.ref ba), .val (.int fv), .val (.int tv), .val (.int (own_res ef tv 5 fv)), .val (.int lv), .val (.int (2 : Int32)), .val (.int (lv &&& (31 : Int32))), .val (.int (128 : Int32)), .val (.int (1 : Int32)), .val (.int c1)] [])) tgt
                refine XS.iconst X7.here hx rfl (hb hby at_306) ?_
                rw [hk1] at k
                exact k
            refine own_st (V := T7.setTop (mkF m 322 #[.val (.int xb), .val (.int xf), .val (.int xt), .val (.ref ba), .val (.int fv), .val (.int tv), .val (.int (own_res ef tv 5 fv)), .val (.int lv), .val (.int (2 : Int32)), .val (.int (((lv &&& (31 : Int32)) <<< ((6 : Int32) &&& 31)) ||| (c1 &&& (63 : Int32)))), .val (.int (128 : Int32)), .val (.int k1), .val (.int c1)] [])) (fun tgt k => ?_) ?_
            · show Steps p.tables e below (T7.setTop (mkF m 307 #[.val (.int xb), .val (.int xf), .val (.int xt), .val (.ref ba), .val (.int fv), .val (.int tv), .val (.int (own_res ef tv 5 fv)), .val (.int lv), .val (.int (2 : Int32)), .val (.int (lv &&& (31 : Int32))), .val (.int (128 : Int32)), .val (.int (1 : Int32)), .val (.int c1)] [(.int k1)])) tgt
              refine XS.istore X7.here hx rfl (hb hby at_307) rfl (l' := #[.val (.int xb), .val (.int xf), .val (.int xt), .val (.ref ba), .val (.int fv), .val (.int tv), .val (.int (own_res ef tv 5 fv)), .val (.int lv), .val (.int (2 : Int32)), .val (.int (lv &&& (31 : Int32))), .val (.int (128 : Int32)), .val (.int k1), .val (.int c1)]) rfl ?_
              show Steps p.tables e below (T7.setTop (mkF m 309 #[.val (.int xb), .val (.int xf), .val (.int xt), .val (.ref ba), .val (.int fv), .val (.int tv), .val (.int (own_res ef tv 5 fv)), .val (.int lv), .val (.int (2 : Int32)), .val (.int (lv &&& (31 : Int32))), .val (.int (128 : Int32)), .val (.int k1), .val (.int c1)] [])) tgt
              refine XS.iload X7.here hx rfl (hb hby at_309) rfl ?_
              show Steps p.tables e below (T7.setTop (mkF m 311 #[.val (.int xb), .val (.int xf), .val (.int xt), .val (.ref ba), .val (.int fv), .val (.int tv), .val (.int (own_res ef tv 5 fv)), .val (.int lv), .val (.int (2 : Int32)), .val (.int (lv &&& (31 : Int32))), .val (.int (128 : Int32)), .val (.int k1), .val (.int c1)] [(.int (lv &&& (31 : Int32)))])) tgt
              refine XS.bipush X7.here hx rfl (hb hby at_311) ?_
              show Steps p.tables e below (T7.setTop (mkF m 313 #[.val (.int xb), .val (.int xf), .val (.int xt), .val (.ref ba), .val (.int fv), .val (.int tv), .val (.int (own_res ef tv 5 fv)), .val (.int lv), .val (.int (2 : Int32)), .val (.int (lv &&& (31 : Int32))), .val (.int (128 : Int32)), .val (.int k1), .val (.int c1)] [(.int (6 : Int32)), (.int (lv &&& (31 : Int32)))])) tgt
              refine XS.ishl X7.here hx rfl (hb hby at_313) rfl ?_
              show Steps p.tables e below (T7.setTop (mkF m 314 #[.val (.int xb), .val (.int xf), .val (.int xt), .val (.ref ba), .val (.int fv), .val (.int tv), .val (.int (own_res ef tv 5 fv)), .val (.int lv), .val (.int (2 : Int32)), .val (.int (lv &&& (31 : Int32))), .val (.int (128 : Int32)), .val (.int k1), .val (.int c1)] [(.int ((lv &&& (31 : Int32)) <<< ((6 : Int32) &&& 31)))])) tgt
              refine XS.iload X7.here hx rfl (hb hby at_314) rfl ?_
              show Steps p.tables e below (T7.setTop (mkF m 316 #[.val (.int xb), .val (.int xf), .val (.int xt), .val (.ref ba), .val (.int fv), .val (.int tv), .val (.int (own_res ef tv 5 fv)), .val (.int lv), .val (.int (2 : Int32)), .val (.int (lv &&& (31 : Int32))), .val (.int (128 : Int32)), .val (.int k1), .val (.int c1)] [(.int c1), (.int ((lv &&& (31 : Int32)) <<< ((6 : Int32) &&& 31)))])) tgt
              refine XS.bipush X7.here hx rfl (hb hby at_316) ?_
              show Steps p.tables e below (T7.setTop (mkF m 318 #[.val (.int xb), .val (.int xf), .val (.int xt), .val (.ref ba), .val (.int fv), .val (.int tv), .val (.int (own_res ef tv 5 fv)), .val (.int lv), .val (.int (2 : Int32)), .val (.int (lv &&& (31 : Int32))), .val (.int (128 : Int32)), .val (.int k1), .val (.int c1)] [(.int (63 : Int32)), (.int c1), (.int ((lv &&& (31 : Int32)) <<< ((6 : Int32) &&& 31)))])) tgt
              refine XS.iand X7.here hx rfl (hb hby at_318) rfl ?_
              show Steps p.tables e below (T7.setTop (mkF m 319 #[.val (.int xb), .val (.int xf), .val (.int xt), .val (.ref ba), .val (.int fv), .val (.int tv), .val (.int (own_res ef tv 5 fv)), .val (.int lv), .val (.int (2 : Int32)), .val (.int (lv &&& (31 : Int32))), .val (.int (128 : Int32)), .val (.int k1), .val (.int c1)] [(.int (c1 &&& (63 : Int32))), (.int ((lv &&& (31 : Int32)) <<< ((6 : Int32) &&& 31)))])) tgt
              refine XS.ior X7.here hx rfl (hb hby at_319) rfl ?_
              show Steps p.tables e below (T7.setTop (mkF m 320 #[.val (.int xb), .val (.int xf), .val (.int xt), .val (.ref ba), .val (.int fv), .val (.int tv), .val (.int (own_res ef tv 5 fv)), .val (.int lv), .val (.int (2 : Int32)), .val (.int (lv &&& (31 : Int32))), .val (.int (128 : Int32)), .val (.int k1), .val (.int c1)] [(.int (((lv &&& (31 : Int32)) <<< ((6 : Int32) &&& 31)) ||| (c1 &&& (63 : Int32))))])) tgt
              refine XS.istore X7.here hx rfl (hb hby at_320) rfl (l' := #[.val (.int xb), .val (.int xf), .val (.int xt), .val (.ref ba), .val (.int fv), .val (.int tv), .val (.int (own_res ef tv 5 fv)), .val (.int lv), .val (.int (2 : Int32)), .val (.int (((lv &&& (31 : Int32)) <<< ((6 : Int32) &&& 31)) ||| (c1 &&& (63 : Int32)))), .val (.int (128 : Int32)), .val (.int k1), .val (.int c1)]) rfl ?_
              exact k
            obtain ⟨q2, hq2⟩ : ∃ z : Int32, z = (((lv &&& (31 : Int32)) <<< ((6 : Int32) &&& 31)) ||| (c1 &&& (63 : Int32))) := ⟨_, rfl⟩
            rw [← hq2]
            refine own_st (V := T7.setTop (mkF m 434 #[.val (.int xb), .val (.int xf), .val (.int xt), .val (.ref ba), .val (.int fv), .val (.int tv), .val (.int (own_res ef tv 5 fv)), .val (.int lv), .val (.int (2 : Int32)), .val (.int q2), .val (.int (128 : Int32)), .val (.int k1), .val (.int c1)] [(.int k1)])) (fun tgt k => ?_) ?_
            · show Steps p.tables e below (T7.setTop (mkF m 322 #[.val (.int xb), .val (.int xf), .val (.int xt), .val (.ref ba), .val (.int fv), .val (.int tv), .val (.int (own_res ef tv 5 fv)), .val (.int lv), .val (.int (2 : Int32)), .val (.int q2), .val (.int (128 : Int32)), .val (.int k1), .val (.int c1)] [])) tgt
              refine XS.iload X7.here hx rfl (hb hby at_322) rfl ?_
              show Steps p.tables e below (T7.setTop (mkF m 324 #[.val (.int xb), .val (.int xf), .val (.int xt), .val (.ref ba), .val (.int fv), .val (.int tv), .val (.int (own_res ef tv 5 fv)), .val (.int lv), .val (.int (2 : Int32)), .val (.int q2), .val (.int (128 : Int32)), .val (.int k1), .val (.int c1)] [(.int (2 : Int32))])) tgt
              refine XS.iconst X7.here hx rfl (hb hby at_324) ?_
              show Steps p.tables e below (T7.setTop (mkF m 325 #[.val (.int xb), .val (.int xf), .val (.int xt), .val (.ref ba), .val (.int fv), .val (.int tv), .val (.int (own_res ef tv 5 fv)), .val (.int lv), .val (.int (2 : Int32)), .val (.int q2), .val (.int (128 : Int32)), .val (.int k1), .val (.int c1)] [(.int (3 : Int32)), (.int (2 : Int32))])) tgt
              refine XS.icmpYes X7.here hx rfl (pc0 := 325) (pc' := 377) rfl (hb hby at_325) rfl (tlt (by decide : (2 : Int32) < (3 : Int32))).1 (by decide) (by decide) ?_
              show Steps p.tables e below (T7.setTop (mkF m 377 #[.val (.int xb), .val (.int xf), .val (.int xt), .val (.ref ba), .val (.int fv), .val (.int tv), .val (.int (own_res ef tv 5 fv)), .val (.int lv), .val (.int (2 : Int32)), .val (.int q2), .val (.int (128 : Int32)), .val (.int k1), .val (.int c1)] [])) tgt
              refine XS.iload X7.here hx rfl (hb hby at_377) rfl ?_
              show Steps p.tables e below (T7.setTop (mkF m 379 #[.val (.int xb), .val (.int xf), .val (.int xt), .val (.ref ba), .val (.int fv), .val (.int tv), .val (.int (own_res ef tv 5 fv)), .val (.int lv), .val (.int (2 : Int32)), .val (.int q2), .val (.int (128 : Int32)), .val (.int k1), .val (.int c1)] [(.int (2 : Int32))])) tgt
              refine XS.iconst X7.here hx rfl (hb hby at_379) ?_
              show Steps p.tables e below (T7.setTop (mkF m 380 #[.val (.int xb), .val (.int xf), .val (.int xt), .val (.ref ba), .val (.int fv), .val (.int tv), .val (.int (own_res ef tv 5 fv)), .val (.int lv), .val (.int (2 : Int32)), .val (.int q2), .val (.int (128 : Int32)), .val (.int k1), .val (.int c1)] [(.int (4 : Int32)), (.int (2 : Int32))])) tgt
              refine XS.icmpYes X7.here hx rfl (pc0 := 380) (pc' := 432) rfl (hb hby at_380) rfl (tlt (by decide : (2 : Int32) < (4 : Int32))).1 (by decide) (by decide) ?_
              show Steps p.tables e below (T7.setTop (mkF m 432 #[.val (.int xb), .val (.int xf), .val (.int xt), .val (.ref ba), .val (.int fv), .val (.int tv), .val (.int (own_res ef tv 5 fv)), .val (.int lv), .val (.int (2 : Int32)), .val (.int q2), .val (.int (128 : Int32)), .val (.int k1), .val (.int c1)] [])) tgt
              refine XS.iload X7.here hx rfl (hb hby at_432) rfl ?_
              exact k
            obtain ⟨vd, hvd⟩ : ∃ z : Int32, z = (if k1 = (0 : Int32) then (0 : Int32) else (if q2 < (128 : Int32) then (0 : Int32) else (if (1114111 : Int32) < q2 then (0 : Int32) else (if q2 < (55296 : Int32) then (1 : Int32) else (if (57343 : Int32) < q2 then (1 : Int32) else (0 : Int32)))))) := ⟨_, rfl⟩
            refine own_st (V := T7.setTop (mkF m 470 #[.val (.int xb), .val (.int xf), .val (.int xt), .val (.ref ba), .val (.int fv), .val (.int tv), .val (.int (own_res ef tv 5 fv)), .val (.int lv), .val (.int (2 : Int32)), .val (.int q2), .val (.int (128 : Int32)), .val (.int k1), .val (.int c1)] [(.int vd)])) (fun tgt k => ?_) ?_
            · skip
              by_cases hc434_2 : k1 = (0 : Int32)
              · skip
                rw [if_pos hc434_2] at hvd
                show Steps p.tables e below (T7.setTop (mkF m 434 #[.val (.int xb), .val (.int xf), .val (.int xt), .val (.ref ba), .val (.int fv), .val (.int tv), .val (.int (own_res ef tv 5 fv)), .val (.int lv), .val (.int (2 : Int32)), .val (.int q2), .val (.int (128 : Int32)), .val (.int k1), .val (.int c1)] [(.int k1)])) tgt
                refine XS.ifYes X7.here hx rfl (pc0 := 434) (pc' := 469) rfl (hb hby at_434) rfl ((if0 _ _).trans (teq hc434_2).1) (by decide) (by decide) ?_
                show Steps p.tables e below (T7.setTop (mkF m 469 #[.val (.int xb), .val (.int xf), .val (.int xt), .val (.ref ba), .val (.int fv), .val (.int tv), .val (.int (own_res ef tv 5 fv)), .val (.int lv), .val (.int (2 : Int32)), .val (.int q2), .val (.int (128 : Int32)), .val (.int k1), .val (.int c1)] [])) tgt
                refine XS.iconst X7.here hx rfl (hb hby at_469) ?_
                rw [hvd] at k
                exact k
              · skip
                rw [if_neg hc434_2] at hvd
                show Steps p.tables e below (T7.setTop (mkF m 434 #[.val (.int xb), .val (.int xf), .val (.int xt), .val (.ref ba), .val (.int fv), .val (.int tv), .val (.int (own_res ef tv 5 fv)), .val (.int lv), .val (.int (2 : Int32)), .val (.int q2), .val (.int (128 : Int32)), .val (.int k1), .val (.int c1)] [(.int k1)])) tgt
                refine XS.ifNo X7.here hx rfl (hb hby at_434) rfl ((if0 _ _).trans (feq hc434_2).1) ?_
                show Steps p.tables e below (T7.setTop (mkF m 437 #[.val (.int xb), .val (.int xf), .val (.int xt), .val (.ref ba), .val (.int fv), .val (.int tv), .val (.int (own_res ef tv 5 fv)), .val (.int lv), .val (.int (2 : Int32)), .val (.int q2), .val (.int (128 : Int32)), .val (.int k1), .val (.int c1)] [])) tgt
                refine XS.iload X7.here hx rfl (hb hby at_437) rfl ?_
                show Steps p.tables e below (T7.setTop (mkF m 439 #[.val (.int xb), .val (.int xf), .val (.int xt), .val (.ref ba), .val (.int fv), .val (.int tv), .val (.int (own_res ef tv 5 fv)), .val (.int lv), .val (.int (2 : Int32)), .val (.int q2), .val (.int (128 : Int32)), .val (.int k1), .val (.int c1)] [(.int q2)])) tgt
                refine XS.iload X7.here hx rfl (hb hby at_439) rfl ?_
                by_cases hc441 : q2 < (128 : Int32)
                · skip
                  rw [if_pos hc441] at hvd
                  show Steps p.tables e below (T7.setTop (mkF m 441 #[.val (.int xb), .val (.int xf), .val (.int xt), .val (.ref ba), .val (.int fv), .val (.int tv), .val (.int (own_res ef tv 5 fv)), .val (.int lv), .val (.int (2 : Int32)), .val (.int q2), .val (.int (128 : Int32)), .val (.int k1), .val (.int c1)] [(.int (128 : Int32)), (.int q2)])) tgt
                  refine XS.icmpYes X7.here hx rfl (pc0 := 441) (pc' := 469) rfl (hb hby at_441) rfl (tlt hc441).1 (by decide) (by decide) ?_
                  show Steps p.tables e below (T7.setTop (mkF m 469 #[.val (.int xb), .val (.int xf), .val (.int xt), .val (.ref ba), .val (.int fv), .val (.int tv), .val (.int (own_res ef tv 5 fv)), .val (.int lv), .val (.int (2 : Int32)), .val (.int q2), .val (.int (128 : Int32)), .val (.int k1), .val (.int c1)] [])) tgt
                  refine XS.iconst X7.here hx rfl (hb hby at_469) ?_
                  rw [hvd] at k
                  exact k
                · skip
                  rw [if_neg hc441] at hvd
                  show Steps p.tables e below (T7.setTop (mkF m 441 #[.val (.int xb), .val (.int xf), .val (.int xt), .val (.ref ba), .val (.int fv), .val (.int tv), .val (.int (own_res ef tv 5 fv)), .val (.int lv), .val (.int (2 : Int32)), .val (.int q2), .val (.int (128 : Int32)), .val (.int k1), .val (.int c1)] [(.int (128 : Int32)), (.int q2)])) tgt
                  refine XS.icmpNo X7.here hx rfl (hb hby at_441) rfl (flt hc441).1 ?_
                  show Steps p.tables e below (T7.setTop (mkF m 444 #[.val (.int xb), .val (.int xf), .val (.int xt), .val (.ref ba), .val (.int fv), .val (.int tv), .val (.int (own_res ef tv 5 fv)), .val (.int lv), .val (.int (2 : Int32)), .val (.int q2), .val (.int (128 : Int32)), .val (.int k1), .val (.int c1)] [])) tgt
                  refine XS.iload X7.here hx rfl (hb hby at_444) rfl ?_
                  show Steps p.tables e below (T7.setTop (mkF m 446 #[.val (.int xb), .val (.int xf), .val (.int xt), .val (.ref ba), .val (.int fv), .val (.int tv), .val (.int (own_res ef tv 5 fv)), .val (.int lv), .val (.int (2 : Int32)), .val (.int q2), .val (.int (128 : Int32)), .val (.int k1), .val (.int c1)] [(.int q2)])) tgt
                  refine X7.ldcInt hx hown (mvT hZ (hw _ (List.mem_of_getElem? (i := 6) rfl))) (g := (mkF m 446 #[.val (.int xb), .val (.int xf), .val (.int xt), .val (.ref ba), .val (.int fv), .val (.int tv), .val (.int (own_res ef tv 5 fv)), .val (.int lv), .val (.int (2 : Int32)), .val (.int q2), .val (.int (128 : Int32)), .val (.int k1), .val (.int c1)] [(.int q2)])) rfl (hb hby at_446) _ ?_
                  by_cases hc448 : (1114111 : Int32) < q2
                  · skip
                    rw [if_pos hc448] at hvd
                    show Steps p.tables e below (T7.setTop (mkF m 448 #[.val (.int xb), .val (.int xf), .val (.int xt), .val (.ref ba), .val (.int fv), .val (.int tv), .val (.int (own_res ef tv 5 fv)), .val (.int lv), .val (.int (2 : Int32)), .val (.int q2), .val (.int (128 : Int32)), .val (.int k1), .val (.int c1)] [(.int (1114111 : Int32)), (.int q2)])) tgt
                    refine XS.icmpYes X7.here hx rfl (pc0 := 448) (pc' := 469) rfl (hb hby at_448) rfl (tlt hc448).2.2.1 (by decide) (by decide) ?_
                    show Steps p.tables e below (T7.setTop (mkF m 469 #[.val (.int xb), .val (.int xf), .val (.int xt), .val (.ref ba), .val (.int fv), .val (.int tv), .val (.int (own_res ef tv 5 fv)), .val (.int lv), .val (.int (2 : Int32)), .val (.int q2), .val (.int (128 : Int32)), .val (.int k1), .val (.int c1)] [])) tgt
                    refine XS.iconst X7.here hx rfl (hb hby at_469) ?_
                    rw [hvd] at k
                    exact k
                  · skip
                    rw [if_neg hc448] at hvd
                    show Steps p.tables e below (T7.setTop (mkF m 448 #[.val (.int xb), .val (.int xf), .val (.int xt), .val (.ref ba), .val (.int fv), .val (.int tv), .val (.int (own_res ef tv 5 fv)), .val (.int lv), .val (.int (2 : Int32)), .val (.int q2), .val (.int (128 : Int32)), .val (.int k1), .val (.int c1)] [(.int (1114111 : Int32)), (.int q2)])) tgt
                    refine XS.icmpNo X7.here hx rfl (hb hby at_448) rfl (flt hc448).2.2.1 ?_
                    show Steps p.tables e below (T7.setTop (mkF m 451 #[.val (.int xb), .val (.int xf), .val (.int xt), .val (.ref ba), .val (.int fv), .val (.int tv), .val (.int (own_res ef tv 5 fv)), .val (.int lv), .val (.int (2 : Int32)), .val (.int q2), .val (.int (128 : Int32)), .val (.int k1), .val (.int c1)] [])) tgt
                    refine XS.iload X7.here hx rfl (hb hby at_451) rfl ?_
                    show Steps p.tables e below (T7.setTop (mkF m 453 #[.val (.int xb), .val (.int xf), .val (.int xt), .val (.ref ba), .val (.int fv), .val (.int tv), .val (.int (own_res ef tv 5 fv)), .val (.int lv), .val (.int (2 : Int32)), .val (.int q2), .val (.int (128 : Int32)), .val (.int k1), .val (.int c1)] [(.int q2)])) tgt
                    refine X7.ldcInt hx hown (mvT hZ (hw _ (List.mem_of_getElem? (i := 7) rfl))) (g := (mkF m 453 #[.val (.int xb), .val (.int xf), .val (.int xt), .val (.ref ba), .val (.int fv), .val (.int tv), .val (.int (own_res ef tv 5 fv)), .val (.int lv), .val (.int (2 : Int32)), .val (.int q2), .val (.int (128 : Int32)), .val (.int k1), .val (.int c1)] [(.int q2)])) rfl (hb hby at_453) _ ?_
                    by_cases hc455 : q2 < (55296 : Int32)
                    · skip
                      rw [if_pos hc455] at hvd
                      show Steps p.tables e below (T7.setTop (mkF m 455 #[.val (.int xb), .val (.int xf), .val (.int xt), .val (.ref ba), .val (.int fv), .val (.int tv), .val (.int (own_res ef tv 5 fv)), .val (.int lv), .val (.int (2 : Int32)), .val (.int q2), .val (.int (128 : Int32)), .val (.int k1), .val (.int c1)] [(.int (55296 : Int32)), (.int q2)])) tgt
                      refine XS.icmpYes X7.here hx rfl (pc0 := 455) (pc' := 465) rfl (hb hby at_455) rfl (tlt hc455).1 (by decide) (by decide) ?_
                      show Steps p.tables e below (T7.setTop (mkF m 465 #[.val (.int xb), .val (.int xf), .val (.int xt), .val (.ref ba), .val (.int fv), .val (.int tv), .val (.int (own_res ef tv 5 fv)), .val (.int lv), .val (.int (2 : Int32)), .val (.int q2), .val (.int (128 : Int32)), .val (.int k1), .val (.int c1)] [])) tgt
                      refine XS.iconst X7.here hx rfl (hb hby at_465) ?_
                      show Steps p.tables e below (T7.setTop (mkF m 466 #[.val (.int xb), .val (.int xf), .val (.int xt), .val (.ref ba), .val (.int fv), .val (.int tv), .val (.int (own_res ef tv 5 fv)), .val (.int lv), .val (.int (2 : Int32)), .val (.int q2), .val (.int (128 : Int32)), .val (.int k1), .val (.int c1)] [(.int (1 : Int32))])) tgt
                      refine XS.goto X7.here hx rfl (pc0 := 466) (pc' := 470) rfl (hb hby at_466) (by decide) (by decide) ?_
                      rw [hvd] at k
                      exact k
                    · skip
                      rw [if_neg hc455] at hvd
                      show Steps p.tables e below (T7.setTop (mkF m 455 #[.val (.int xb), .val (.int xf), .val (.int xt), .val (.ref ba), .val (.int fv), .val (.int tv), .val (.int (own_res ef tv 5 fv)), .val (.int lv), .val (.int (2 : Int32)), .val (.int q2), .val (.int (128 : Int32)), .val (.int k1), .val (.int c1)] [(.int (55296 : Int32)), (.int q2)])) tgt
                      refine XS.icmpNo X7.here hx rfl (hb hby at_455) rfl (flt hc455).1 ?_
                      show Steps p.tables e below (T7.setTop (mkF m 458 #[.val (.int xb), .val (.int xf), .val (.int xt), .val (.ref ba), .val (.int fv), .val (.int tv), .val (.int (own_res ef tv 5 fv)), .val (.int lv), .val (.int (2 : Int32)), .val (.int q2), .val (.int (128 : Int32)), .val (.int k1), .val (.int c1)] [])) tgt
                      refine XS.iload X7.here hx rfl (hb hby at_458) rfl ?_
                      show Steps p.tables e below (T7.setTop (mkF m 460 #[.val (.int xb), .val (.int xf), .val (.int xt), .val (.ref ba), .val (.int fv), .val (.int tv), .val (.int (own_res ef tv 5 fv)), .val (.int lv), .val (.int (2 : Int32)), .val (.int q2), .val (.int (128 : Int32)), .val (.int k1), .val (.int c1)] [(.int q2)])) tgt
                      refine X7.ldcInt hx hown (mvT hZ (hw _ (List.mem_of_getElem? (i := 9) rfl))) (g := (mkF m 460 #[.val (.int xb), .val (.int xf), .val (.int xt), .val (.ref ba), .val (.int fv), .val (.int tv), .val (.int (own_res ef tv 5 fv)), .val (.int lv), .val (.int (2 : Int32)), .val (.int q2), .val (.int (128 : Int32)), .val (.int k1), .val (.int c1)] [(.int q2)])) rfl (hb hby at_460) _ ?_
                      by_cases hc462 : (57343 : Int32) < q2
                      · skip
                        rw [if_pos hc462] at hvd
                        show Steps p.tables e below (T7.setTop (mkF m 462 #[.val (.int xb), .val (.int xf), .val (.int xt), .val (.ref ba), .val (.int fv), .val (.int tv), .val (.int (own_res ef tv 5 fv)), .val (.int lv), .val (.int (2 : Int32)), .val (.int q2), .val (.int (128 : Int32)), .val (.int k1), .val (.int c1)] [(.int (57343 : Int32)), (.int q2)])) tgt
                        refine XS.icmpNo X7.here hx rfl (hb hby at_462) rfl (tlt hc462).2.2.2 ?_
                        show Steps p.tables e below (T7.setTop (mkF m 465 #[.val (.int xb), .val (.int xf), .val (.int xt), .val (.ref ba), .val (.int fv), .val (.int tv), .val (.int (own_res ef tv 5 fv)), .val (.int lv), .val (.int (2 : Int32)), .val (.int q2), .val (.int (128 : Int32)), .val (.int k1), .val (.int c1)] [])) tgt
                        refine XS.iconst X7.here hx rfl (hb hby at_465) ?_
                        show Steps p.tables e below (T7.setTop (mkF m 466 #[.val (.int xb), .val (.int xf), .val (.int xt), .val (.ref ba), .val (.int fv), .val (.int tv), .val (.int (own_res ef tv 5 fv)), .val (.int lv), .val (.int (2 : Int32)), .val (.int q2), .val (.int (128 : Int32)), .val (.int k1), .val (.int c1)] [(.int (1 : Int32))])) tgt
                        refine XS.goto X7.here hx rfl (pc0 := 466) (pc' := 470) rfl (hb hby at_466) (by decide) (by decide) ?_
                        rw [hvd] at k
                        exact k
                      · skip
                        rw [if_neg hc462] at hvd
                        show Steps p.tables e below (T7.setTop (mkF m 462 #[.val (.int xb), .val (.int xf), .val (.int xt), .val (.ref ba), .val (.int fv), .val (.int tv), .val (.int (own_res ef tv 5 fv)), .val (.int lv), .val (.int (2 : Int32)), .val (.int q2), .val (.int (128 : Int32)), .val (.int k1), .val (.int c1)] [(.int (57343 : Int32)), (.int q2)])) tgt
                        refine XS.icmpYes X7.here hx rfl (pc0 := 462) (pc' := 469) rfl (hb hby at_462) rfl (flt hc462).2.2.2 (by decide) (by decide) ?_
                        show Steps p.tables e below (T7.setTop (mkF m 469 #[.val (.int xb), .val (.int xf), .val (.int xt), .val (.ref ba), .val (.int fv), .val (.int tv), .val (.int (own_res ef tv 5 fv)), .val (.int lv), .val (.int (2 : Int32)), .val (.int q2), .val (.int (128 : Int32)), .val (.int k1), .val (.int c1)] [])) tgt
                        refine XS.iconst X7.here hx rfl (hb hby at_469) ?_
                        rw [hvd] at k
                        exact k
            refine own_st (V := T7.setTop (mkF m 474 #[.val (.int xb), .val (.int xf), .val (.int xt), .val (.ref ba), .val (.int fv), .val (.int tv), .val (.int (own_res ef tv 5 fv)), .val (.int lv), .val (.int (2 : Int32)), .val (.int q2), .val (.int (128 : Int32)), .val (.int k1), .val (.int vd)] [(.int vd)])) (fun tgt k => ?_) ?_
            · show Steps p.tables e below (T7.setTop (mkF m 470 #[.val (.int xb), .val (.int xf), .val (.int xt), .val (.ref ba), .val (.int fv), .val (.int tv), .val (.int (own_res ef tv 5 fv)), .val (.int lv), .val (.int (2 : Int32)), .val (.int q2), .val (.int (128 : Int32)), .val (.int k1), .val (.int c1)] [(.int vd)])) tgt
              refine XS.istore X7.here hx rfl (hb hby at_470) rfl (l' := #[.val (.int xb), .val (.int xf), .val (.int xt), .val (.ref ba), .val (.int fv), .val (.int tv), .val (.int (own_res ef tv 5 fv)), .val (.int lv), .val (.int (2 : Int32)), .val (.int q2), .val (.int (128 : Int32)), .val (.int k1), .val (.int vd)]) rfl ?_
              show Steps p.tables e below (T7.setTop (mkF m 472 #[.val (.int xb), .val (.int xf), .val (.int xt), .val (.ref ba), .val (.int fv), .val (.int tv), .val (.int (own_res ef tv 5 fv)), .val (.int lv), .val (.int (2 : Int32)), .val (.int q2), .val (.int (128 : Int32)), .val (.int k1), .val (.int vd)] [])) tgt
              refine XS.iload X7.here hx rfl (hb hby at_472) rfl ?_
              exact k
            by_cases hc474 : vd = (0 : Int32)
            · skip
              refine own_st (V := T7.setTop (mkF m 489 #[.val (.int xb), .val (.int xf), .val (.int xt), .val (.ref ba), .val (.int fv), .val (.int tv), .val (.int (own_res ef tv 5 fv)), .val (.int lv), .val (.int (2 : Int32)), .val (.int q2), .val (.int (128 : Int32)), .val (.int k1), .val (.int vd)] [(.int (1 : Int32))])) (fun tgt k => ?_) ?_
              · show Steps p.tables e below (T7.setTop (mkF m 474 #[.val (.int xb), .val (.int xf), .val (.int xt), .val (.ref ba), .val (.int fv), .val (.int tv), .val (.int (own_res ef tv 5 fv)), .val (.int lv), .val (.int (2 : Int32)), .val (.int q2), .val (.int (128 : Int32)), .val (.int k1), .val (.int vd)] [(.int vd)])) tgt
                refine XS.ifNo X7.here hx rfl (hb hby at_474) rfl ((if0 _ _).trans (teq hc474).2) ?_
                show Steps p.tables e below (T7.setTop (mkF m 477 #[.val (.int xb), .val (.int xf), .val (.int xt), .val (.ref ba), .val (.int fv), .val (.int tv), .val (.int (own_res ef tv 5 fv)), .val (.int lv), .val (.int (2 : Int32)), .val (.int q2), .val (.int (128 : Int32)), .val (.int k1), .val (.int vd)] [])) tgt
                refine XS.iload X7.here hx rfl (hb hby at_477) rfl ?_
                show Steps p.tables e below (T7.setTop (mkF m 479 #[.val (.int xb), .val (.int xf), .val (.int xt), .val (.ref ba), .val (.int fv), .val (.int tv), .val (.int (own_res ef tv 5 fv)), .val (.int lv), .val (.int (2 : Int32)), .val (.int q2), .val (.int (128 : Int32)), .val (.int k1), .val (.int vd)] [(.int (own_res ef tv 5 fv))])) tgt
                refine XS.iload X7.here hx rfl (hb hby at_479) rfl ?_
                show Steps p.tables e below (T7.setTop (mkF m 481 #[.val (.int xb), .val (.int xf), .val (.int xt), .val (.ref ba), .val (.int fv), .val (.int tv), .val (.int (own_res ef tv 5 fv)), .val (.int lv), .val (.int (2 : Int32)), .val (.int q2), .val (.int (128 : Int32)), .val (.int k1), .val (.int vd)] [(.int fv), (.int (own_res ef tv 5 fv))])) tgt
                refine XS.icmpNo X7.here hx rfl (hb hby at_481) rfl (teq (own_bad hlt (by unfold own_S; rw [← hlv, ← hc1]; exact (own_v2 hl0 hr1 hc113 hc127 hc179 hk1 hq2 hvd).1 hc474))).2 ?_
                show Steps p.tables e below (T7.setTop (mkF m 484 #[.val (.int xb), .val (.int xf), .val (.int xt), .val (.ref ba), .val (.int fv), .val (.int tv), .val (.int (own_res ef tv 5 fv)), .val (.int lv), .val (.int (2 : Int32)), .val (.int q2), .val (.int (128 : Int32)), .val (.int k1), .val (.int vd)] [])) tgt
                refine XS.iconst X7.here hx rfl (hb hby at_484) ?_
                show Steps p.tables e below (T7.setTop (mkF m 485 #[.val (.int xb), .val (.int xf), .val (.int xt), .val (.ref ba), .val (.int fv), .val (.int tv), .val (.int (own_res ef tv 5 fv)), .val (.int lv), .val (.int (2 : Int32)), .val (.int q2), .val (.int (128 : Int32)), .val (.int k1), .val (.int vd)] [(.int (1 : Int32))])) tgt
                refine XS.goto X7.here hx rfl (pc0 := 485) (pc' := 489) rfl (hb hby at_485) (by decide) (by decide) ?_
                exact k
              refine own_retN X7 hx hlk (t := .boolean) (z' := (1 : Int32)) Bd.returns (by simp) rfl (hb hby at_489) ?_ (by decide) (by decide)
              show Q0 Z xb xf xt h0 n0 (some (.int (1 : Int32))) T7.heap _
              rw [K7]
              exact ⟨rfl, N7⟩
            · skip
              refine own_st (V := T7.setTop (mkF m 500 #[.val (.int xb), .val (.int xf), .val (.int xt), .val (.ref ba), .val (.int fv), .val (.int tv), .val (.int (own_res ef tv 5 fv)), .val (.int lv), .val (.int (2 : Int32)), .val (.int q2), .val (.int (128 : Int32)), .val (.int k1), .val (.int vd)] [(.int tv), (.int (fv + (2 : Int32))), (.ref ba), (.int (own_res ef tv 5 fv))])) (fun tgt k => ?_) ?_
              · show Steps p.tables e below (T7.setTop (mkF m 474 #[.val (.int xb), .val (.int xf), .val (.int xt), .val (.ref ba), .val (.int fv), .val (.int tv), .val (.int (own_res ef tv 5 fv)), .val (.int lv), .val (.int (2 : Int32)), .val (.int q2), .val (.int (128 : Int32)), .val (.int k1), .val (.int vd)] [(.int vd)])) tgt
                refine XS.ifYes X7.here hx rfl (pc0 := 474) (pc' := 490) rfl (hb hby at_474) rfl ((if0 _ _).trans (feq hc474).2) (by decide) (by decide) ?_
                show Steps p.tables e below (T7.setTop (mkF m 490 #[.val (.int xb), .val (.int xf), .val (.int xt), .val (.ref ba), .val (.int fv), .val (.int tv), .val (.int (own_res ef tv 5 fv)), .val (.int lv), .val (.int (2 : Int32)), .val (.int q2), .val (.int (128 : Int32)), .val (.int k1), .val (.int vd)] [])) tgt
                refine XS.iload X7.here hx rfl (hb hby at_490) rfl ?_
                show Steps p.tables e below (T7.setTop (mkF m 492 #[.val (.int xb), .val (.int xf), .val (.int xt), .val (.ref ba), .val (.int fv), .val (.int tv), .val (.int (own_res ef tv 5 fv)), .val (.int lv), .val (.int (2 : Int32)), .val (.int q2), .val (.int (128 : Int32)), .val (.int k1), .val (.int vd)] [(.int (own_res ef tv 5 fv))])) tgt
                refine XS.aloadN X7.here hx rfl (hb hby at_492) rfl rfl ?_
                show Steps p.tables e below (T7.setTop (mkF m 493 #[.val (.int xb), .val (.int xf), .val (.int xt), .val (.ref ba), .val (.int fv), .val (.int tv), .val (.int (own_res ef tv 5 fv)), .val (.int lv), .val (.int (2 : Int32)), .val (.int q2), .val (.int (128 : Int32)), .val (.int k1), .val (.int vd)] [(.ref ba), (.int (own_res ef tv 5 fv))])) tgt
                refine XS.iload X7.here hx rfl (hb hby at_493) rfl ?_
                show Steps p.tables e below (T7.setTop (mkF m 495 #[.val (.int xb), .val (.int xf), .val (.int xt), .val (.ref ba), .val (.int fv), .val (.int tv), .val (.int (own_res ef tv 5 fv)), .val (.int lv), .val (.int (2 : Int32)), .val (.int q2), .val (.int (128 : Int32)), .val (.int k1), .val (.int vd)] [(.int fv), (.ref ba), (.int (own_res ef tv 5 fv))])) tgt
                refine XS.iload X7.here hx rfl (hb hby at_495) rfl ?_
                show Steps p.tables e below (T7.setTop (mkF m 497 #[.val (.int xb), .val (.int xf), .val (.int xt), .val (.ref ba), .val (.int fv), .val (.int tv), .val (.int (own_res ef tv 5 fv)), .val (.int lv), .val (.int (2 : Int32)), .val (.int q2), .val (.int (128 : Int32)), .val (.int k1), .val (.int vd)] [(.int (2 : Int32)), (.int fv), (.ref ba), (.int (own_res ef tv 5 fv))])) tgt
                refine XS.iadd X7.here hx rfl (hb hby at_497) rfl ?_
                show Steps p.tables e below (T7.setTop (mkF m 498 #[.val (.int xb), .val (.int xf), .val (.int xt), .val (.ref ba), .val (.int fv), .val (.int tv), .val (.int (own_res ef tv 5 fv)), .val (.int lv), .val (.int (2 : Int32)), .val (.int q2), .val (.int (128 : Int32)), .val (.int k1), .val (.int vd)] [(.int (fv + (2 : Int32))), (.ref ba), (.int (own_res ef tv 5 fv))])) tgt
                refine XS.iload X7.here hx rfl (hb hby at_498) rfl ?_
                exact k
              obtain ⟨v15, _, ⟨T15, L15, k15, n15⟩, -, Xc15, ⟨Lc15, hQ15, l15, y15, z15⟩, st15⟩ := Jvm.LawKit.callS X7 hx (y := (⟨"com/example/vestwright/vestwright/input/Utf8", "firstNotUtf8", "([BII)I"⟩ : MethodName)) hown (mvT hZ (hw _ (List.mem_of_getElem? (i := 2) rfl))) (mvT hZ (hw _ (List.mem_of_getElem? (i := 3) rfl))) (mvT hZ (hw _ (List.mem_of_getElem? (i := 4) rfl))) (mvT hZ (hw _ (List.mem_of_getElem? (i := 5) rfl))) (by decide) (backOf (W := 1) (rm1 l Z a0 hw [] ba (fv + (2 : Int32)) tv ef 4 h5 n0 Zs5 Ag_ba_6 (by rw [a2]; omega) (by rw [a2]; omega) ht0.2 (by rw [a2]; omega)) hZ (hw _ (List.mem_of_getElem? (i := 5) rfl)) (hw _ (List.mem_of_getElem? (i := 4) rfl)) (by decide) (by decide)) (g := (mkF m 500 #[.val (.int xb), .val (.int xf), .val (.int xt), .val (.ref ba), .val (.int fv), .val (.int tv), .val (.int (own_res ef tv 5 fv)), .val (.int lv), .val (.int (2 : Int32)), .val (.int q2), .val (.int (128 : Int32)), .val (.int k1), .val (.int vd)] [(.int tv), (.int (fv + (2 : Int32))), (.ref ba), (.int (own_res ef tv 5 fv))])) rfl (by rw [hml]; rfl) (argsL := [(.ref ba), (.int (fv + (2 : Int32))), (.int tv)]) (rest := [(.int (own_res ef tv 5 fv))]) (lenOf pd_0_0 rfl) rfl (by show 2 * 0 + _ ≤ _; exact Nat.le_of_eq rfl) (hb hby at_500) (fun _ _ => ⟨rfl, K7, (by decide : 1 + 0 ≤ _), (by decide : 4 + 0 ≤ _)⟩)
              dsimp only [Pt.U, Pt.locs, Pt.cells, Pt.slots] at Xc15 l15 y15 z15 st15 hQ15
              have X15 := own_cast Xc15 l15 y15 z15
              obtain ⟨ev15, N15q, K15⟩ := hQ15
              rw [ev15] at st15
              have N15 := Fr.app N7 N15q
              refine own_st st15 ?_
              show own_Go p e below _ (T15.setTop (mkF m 503 #[.val (.int xb), .val (.int xf), .val (.int xt), .val (.ref ba), .val (.int fv), .val (.int tv), .val (.int (own_res ef tv 5 fv)), .val (.int lv), .val (.int (2 : Int32)), .val (.int q2), .val (.int (128 : Int32)), .val (.int k1), .val (.int vd)] [(.int (own_res ef tv 4 (fv + (2 : Int32)))), (.int (own_res ef tv 5 fv))]))
              refine own_st (V := T15.setTop (mkF m 511 #[.val (.int xb), .val (.int xf), .val (.int xt), .val (.ref ba), .val (.int fv), .val (.int tv), .val (.int (own_res ef tv 5 fv)), .val (.int lv), .val (.int (2 : Int32)), .val (.int q2), .val (.int (128 : Int32)), .val (.int k1), .val (.int vd)] [(.int (1 : Int32))])) (fun tgt k => ?_) ?_
              · show Steps p.tables e below (T15.setTop (mkF m 503 #[.val (.int xb), .val (.int xf), .val (.int xt), .val (.ref ba), .val (.int fv), .val (.int tv), .val (.int (own_res ef tv 5 fv)), .val (.int lv), .val (.int (2 : Int32)), .val (.int q2), .val (.int (128 : Int32)), .val (.int k1), .val (.int vd)] [(.int (own_res ef tv 4 (fv + (2 : Int32)))), (.int (own_res ef tv 5 fv))])) tgt
                refine XS.icmpNo X15.here hx rfl (hb hby at_503) rfl (teq (own_good hlt (by unfold own_S; rw [← hlv, ← hc1]; exact (own_v2 hl0 hr1 hc113 hc127 hc179 hk1 hq2 hvd).2 hc474) (by decide))).2 ?_
                show Steps p.tables e below (T15.setTop (mkF m 506 #[.val (.int xb), .val (.int xf), .val (.int xt), .val (.ref ba), .val (.int fv), .val (.int tv), .val (.int (own_res ef tv 5 fv)), .val (.int lv), .val (.int (2 : Int32)), .val (.int q2), .val (.int (128 : Int32)), .val (.int k1), .val (.int vd)] [])) tgt
                refine XS.iconst X15.here hx rfl (hb hby at_506) ?_
                show Steps p.tables e below (T15.setTop (mkF m 507 #[.val (.int xb), .val (.int xf), .val (.int xt), .val (.ref ba), .val (.int fv), .val (.int tv), .val (.int (own_res ef tv 5 fv)), .val (.int lv), .val (.int (2 : Int32)), .val (.int q2), .val (.int (128 : Int32)), .val (.int k1), .val (.int vd)] [(.int (1 : Int32))])) tgt
                refine XS.goto X15.here hx rfl (pc0 := 507) (pc' := 511) rfl (hb hby at_507) (by decide) (by decide) ?_
                exact k
              refine own_retN X15 hx hlk (t := .boolean) (z' := (1 : Int32)) Bd.returns (by simp) rfl (hb hby at_511) ?_ (by decide) (by decide)
              show Q0 Z xb xf xt h0 n0 (some (.int (1 : Int32))) T15.heap _
              rw [K15]
              exact ⟨rfl, N15⟩
        · skip
          refine own_st (V := T7.setTop (mkF m 141 #[.val (.int xb), .val (.int xf), .val (.int xt), .val (.ref ba), .val (.int fv), .val (.int tv), .val (.int (own_res ef tv 5 fv)), .val (.int lv), .unset, .unset, .unset, .unset, .unset] [(.int (240 : Int32)), (.int lv)])) (fun tgt k => ?_) ?_
          · show Steps p.tables e below (T7.setTop (mkF m 127 #[.val (.int xb), .val (.int xf), .val (.int xt), .val (.ref ba), .val (.int fv), .val (.int tv), .val (.int (own_res ef tv 5 fv)), .val (.int lv), .unset, .unset, .unset, .unset, .unset] [(.int (224 : Int32)), (.int lv)])) tgt
            refine XS.icmpYes X7.here hx rfl (pc0 := 127) (pc' := 136) rfl (hb hby at_127) rfl (flt hc127).2.1 (by decide) (by decide) ?_
            show Steps p.tables e below (T7.setTop (mkF m 136 #[.val (.int xb), .val (.int xf), .val (.int xt), .val (.ref ba), .val (.int fv), .val (.int tv), .val (.int (own_res ef tv 5 fv)), .val (.int lv), .unset, .unset, .unset, .unset, .unset] [])) tgt
            refine XS.iload X7.here hx rfl (hb hby at_136) rfl ?_
            show Steps p.tables e below (T7.setTop (mkF m 138 #[.val (.int xb), .val (.int xf), .val (.int xt), .val (.ref ba), .val (.int fv), .val (.int tv), .val (.int (own_res ef tv 5 fv)), .val (.int lv), .unset, .unset, .unset, .unset, .unset] [(.int lv)])) tgt
            refine XS.sipush X7.here hx rfl (hb hby at_138) ?_
            exact k
          by_cases hc141 : lv < (240 : Int32)
          · skip
            refine own_st (V := T7.setTop (mkF m 179 #[.val (.int xb), .val (.int xf), .val (.int xt), .val (.ref ba), .val (.int fv), .val (.int tv), .val (.int (own_res ef tv 5 fv)), .val (.int lv), .val (.int (3 : Int32)), .unset, .unset, .unset, .unset] [(.int tv), (.int (fv + (3 : Int32)))])) (fun tgt k => ?_) ?_
            · show Steps p.tables e below (T7.setTop (mkF m 141 #[.val (.int xb), .val (.int xf), .val (.int xt), .val (.ref ba), .val (.int fv), .val (.int tv), .val (.int (own_res ef tv 5 fv)), .val (.int lv), .unset, .unset, .unset, .unset, .unset] [(.int (240 : Int32)), (.int lv)])) tgt
              refine XS.icmpNo X7.here hx rfl (hb hby at_141) rfl (tlt hc141).2.1 ?_
              show Steps p.tables e below (T7.setTop (mkF m 144 #[.val (.int xb), .val (.int xf), .val (.int xt), .val (.ref ba), .val (.int fv), .val (.int tv), .val (.int (own_res ef tv 5 fv)), .val (.int lv), .unset, .unset, .unset, .unset, .unset] [])) tgt
              refine XS.iconst X7.here hx rfl (hb hby at_144) ?_
              show Steps p.tables e below (T7.setTop (mkF m 145 #[.val (.int xb), .val (.int xf), .val (.int xt), .val (.ref ba), .val (.int fv), .val (.int tv), .val (.int (own_res ef tv 5 fv)), .val (.int lv), .unset, .unset, .unset, .unset, .unset] [(.int (3 : Int32))])) tgt
              refine XS.istore X7.here hx rfl (hb hby at_145) rfl (l' := #[.val (.int xb), .val (.int xf), .val (.int xt), .val (.ref ba), .val (.int fv), .val (.int tv), .val (.int (own_res ef tv 5 fv)), .val (.int lv), .val (.int (3 : Int32)), .unset, .unset, .unset, .unset]) rfl ?_
              show Steps p.tables e below (T7.setTop (mkF m 147 #[.val (.int xb), .val (.int xf), .val (.int xt), .val (.ref ba), .val (.int fv), .val (.int tv), .val (.int (own_res ef tv 5 fv)), .val (.int lv), .val (.int (3 : Int32)), .unset, .unset, .unset, .unset] [])) tgt
              refine XS.goto X7.here hx rfl (pc0 := 147) (pc' := 167) rfl (hb hby at_147) (by decide) (by decide) ?_
              show Steps p.tables e below (T7.setTop (mkF m 167 #[.val (.int xb), .val (.int xf), .val (.int xt), .val (.ref ba), .val (.int fv), .val (.int tv), .val (.int (own_res ef tv 5 fv)), .val (.int lv), .val (.int (3 : Int32)), .unset, .unset, .unset, .unset] [])) tgt
              refine XS.iload X7.here hx rfl (hb hby at_167) rfl ?_
              show Steps p.tables e below (T7.setTop (mkF m 169 #[.val (.int xb), .val (.int xf), .val (.int xt), .val (.ref ba), .val (.int fv), .val (.int tv), .val (.int (own_res ef tv 5 fv)), .val (.int lv), .val (.int (3 : Int32)), .unset, .unset, .unset, .unset] [(.int (3 : Int32))])) tgt
              refine XS.ifNo X7.here hx rfl (hb hby at_169) rfl ((if0 _ _).trans (feq (by decide : ¬ ((3 : Int32) = (0 : Int32)))).1) ?_
              show Steps p.tables e below (T7.setTop (mkF m 172 #[.val (.int xb), .val (.int xf), .val (.int xt), .val (.ref ba), .val (.int fv), .val (.int tv), .val (.int (own_res ef tv 5 fv)), .val (.int lv), .val (.int (3 : Int32)), .unset, .unset, .unset, .unset] [])) tgt
              refine XS.iload X7.here hx rfl (hb hby at_172) rfl ?_
              show Steps p.tables e below (T7.setTop (mkF m 174 #[.val (.int xb), .val (.int xf), .val (.int xt), .val (.ref ba), .val (.int fv), .val (.int tv), .val (.int (own_res ef tv 5 fv)), .val (.int lv), .val (.int (3 : Int32)), .unset, .unset, .unset, .unset] [(.int fv)])) tgt
              refine XS.iload X7.here hx rfl (hb hby at_174) rfl ?_
              show Steps p.tables e below (T7.setTop (mkF m 176 #[.val (.int xb), .val (.int xf), .val (.int xt), .val (.ref ba), .val (.int fv), .val (.int tv), .val (.int (own_res ef tv 5 fv)), .val (.int lv), .val (.int (3 : Int32)), .unset, .unset, .unset, .unset] [(.int (3 : Int32)), (.int fv)])) tgt
              refine XS.iadd X7.here hx rfl (hb hby at_176) rfl ?_
              show Steps p.tables e below (T7.setTop (mkF m 177 #[.val (.int xb), .val (.int xf), .val (.int xt), .val (.ref ba), .val (.int fv), .val (.int tv), .val (.int (own_res ef tv 5 fv)), .val (.int lv), .val (.int (3 : Int32)), .unset, .unset, .unset, .unset] [(.int (fv + (3 : Int32)))])) tgt
              refine XS.iload X7.here hx rfl (hb hby at_177) rfl ?_
              exact k
            by_cases hc179 : tv < (fv + (3 : Int32))
            · skip
              refine own_st (V := T7.setTop (mkF m 194 #[.val (.int xb), .val (.int xf), .val (.int xt), .val (.ref ba), .val (.int fv), .val (.int tv), .val (.int (own_res ef tv 5 fv)), .val (.int lv), .val (.int (3 : Int32)), .unset, .unset, .unset, .unset] [(.int (1 : Int32))])) (fun tgt k => ?_) ?_
              · show Steps p.tables e below (T7.setTop (mkF m 179 #[.val (.int xb), .val (.int xf), .val (.int xt), .val (.ref ba), .val (.int fv), .val (.int tv), .val (.int (own_res ef tv 5 fv)), .val (.int lv), .val (.int (3 : Int32)), .unset, .unset, .unset, .unset] [(.int tv), (.int (fv + (3 : Int32)))])) tgt
                refine XS.icmpNo X7.here hx rfl (hb hby at_179) rfl (tlt hc179).2.2.2 ?_
                show Steps p.tables e below (T7.setTop (mkF m 182 #[.val (.int xb), .val (.int xf), .val (.int xt), .val (.ref ba), .val (.int fv), .val (.int tv), .val (.int (own_res ef tv 5 fv)), .val (.int lv), .val (.int (3 : Int32)), .unset, .unset, .unset, .unset] [])) tgt
                refine XS.iload X7.here hx rfl (hb hby at_182) rfl ?_
                show Steps p.tables e below (T7.setTop (mkF m 184 #[.val (.int xb), .val (.int xf), .val (.int xt), .val (.ref ba), .val (.int fv), .val (.int tv), .val (.int (own_res ef tv 5 fv)), .val (.int lv), .val (.int (3 : Int32)), .unset, .unset, .unset, .unset] [(.int (own_res ef tv 5 fv))])) tgt
                refine XS.iload X7.here hx rfl (hb hby at_184) rfl ?_
                show Steps p.tables e below (T7.setTop (mkF m 186 #[.val (.int xb), .val (.int xf), .val (.int xt), .val (.ref ba), .val (.int fv), .val (.int tv), .val (.int (own_res ef tv 5 fv)), .val (.int lv), .val (.int (3 : Int32)), .unset, .unset, .unset, .unset] [(.int fv), (.int (own_res ef tv 5 fv))])) tgt
                refine XS.icmpNo X7.here hx rfl (hb hby at_186) rfl (teq (own_bad hlt (by unfold own_S; rw [← hlv]; exact own_u3 hc127 hc141 hc179))).2 ?_
                show Steps p.tables e below (T7.setTop (mkF m 189 #[.val (.int xb), .val (.int xf), .val (.int xt), .val (.ref ba), .val (.int fv), .val (.int tv), .val (.int (own_res ef tv 5 fv)), .val (.int lv), .val (.int (3 : Int32)), .unset, .unset, .unset, .unset] [])) tgt
                refine XS.iconst X7.here hx rfl (hb hby at_189) ?_
                show Steps p.tables e below (T7.setTop (mkF m 190 #[.val (.int xb), .val (.int xf), .val (.int xt), .val (.ref ba), .val (.int fv), .val (.int tv), .val (.int (own_res ef tv 5 fv)), .val (.int lv), .val (.int (3 : Int32)), .unset, .unset, .unset, .unset] [(.int (1 : Int32))])) tgt
                refine XS.goto X7.here hx rfl (pc0 := 190) (pc' := 194) rfl (hb hby at_190) (by decide) (by decide) ?_
                exact k
              refine own_retN X7 hx hlk (t := .boolean) (z' := (1 : Int32)) Bd.returns (by simp) rfl (hb hby at_194) ?_ (by decide) (by decide)
              show Q0 Z xb xf xt h0 n0 (some (.int (1 : Int32))) T7.heap _
              rw [K7]
              exact ⟨rfl, N7⟩
            · skip
              refine own_st (V := T7.setTop (mkF m 195 #[.val (.int xb), .val (.int xf), .val (.int xt), .val (.ref ba), .val (.int fv), .val (.int tv), .val (.int (own_res ef tv 5 fv)), .val (.int lv), .val (.int (3 : Int32)), .unset, .unset, .unset, .unset] [])) (fun tgt k => ?_) ?_
              · show Steps p.tables e below (T7.setTop (mkF m 179 #[.val (.int xb), .val (.int xf), .val (.int xt), .val (.ref ba), .val (.int fv), .val (.int tv), .val (.int (own_res ef tv 5 fv)), .val (.int lv), .val (.int (3 : Int32)), .unset, .unset, .unset, .unset] [(.int tv), (.int (fv + (3 : Int32)))])) tgt
                refine XS.icmpYes X7.here hx rfl (pc0 := 179) (pc' := 195) rfl (hb hby at_179) rfl (flt hc179).2.2.2 (by decide) (by decide) ?_
                exact k
              have hfit : fv.toInt + 3 ≤ tv.toInt := by rw [own_ilt, a3] at hc179; omega
              refine own_st (V := T7.setTop (mkF m 285 #[.val (.int xb), .val (.int xf), .val (.int xt), .val (.ref ba), .val (.int fv), .val (.int tv), .val (.int (own_res ef tv 5 fv)), .val (.int lv), .val (.int (3 : Int32)), .val (.int (lv &&& (15 : Int32))), .val (.int (2048 : Int32)), .val (.int (1 : Int32)), .val (.int ((ef (fv.toInt.toNat + 1)) &&& (255 : Int32)))] [])) (fun tgt k => ?_) ?_
              · show Steps p.tables e below (T7.setTop (mkF m 195 #[.val (.int xb), .val (.int xf), .val (.int xt), .val (.ref ba), .val (.int fv), .val (.int tv), .val (.int (own_res ef tv 5 fv)), .val (.int lv), .val (.int (3 : Int32)), .unset, .unset, .unset, .unset] [])) tgt
                refine XS.iload X7.here hx rfl (hb hby at_195) rfl ?_
                show Steps p.tables e below (T7.setTop (mkF m 197 #[.val (.int xb), .val (.int xf), .val (.int xt), .val (.ref ba), .val (.int fv), .val (.int tv), .val (.int (own_res ef tv 5 fv)), .val (.int lv), .val (.int (3 : Int32)), .unset, .unset, .unset, .unset] [(.int (3 : Int32))])) tgt
                refine XS.iconst X7.here hx rfl (hb hby at_197) ?_
                show Steps p.tables e below (T7.setTop (mkF m 198 #[.val (.int xb), .val (.int xf), .val (.int xt), .val (.ref ba), .val (.int fv), .val (.int tv), .val (.int (own_res ef tv 5 fv)), .val (.int lv), .val (.int (3 : Int32)), .unset, .unset, .unset, .unset] [(.int (1 : Int32)), (.int (3 : Int32))])) tgt
                refine XS.icmpYes X7.here hx rfl (pc0 := 198) (pc' := 211) rfl (hb hby at_198) rfl (feq (by decide : ¬ ((3 : Int32) = (1 : Int32)))).2 (by decide) (by decide) ?_
                show Steps p.tables e below (T7.setTop (mkF m 211 #[.val (.int xb), .val (.int xf), .val (.int xt), .val (.ref ba), .val (.int fv), .val (.int tv), .val (.int (own_res ef tv 5 fv)), .val (.int lv), .val (.int (3 : Int32)), .unset, .unset, .unset, .unset] [])) tgt
                refine XS.iload X7.here hx rfl (hb hby at_211) rfl ?_
                show Steps p.tables e below (T7.setTop (mkF m 213 #[.val (.int xb), .val (.int xf), .val (.int xt), .val (.ref ba), .val (.int fv), .val (.int tv), .val (.int (own_res ef tv 5 fv)), .val (.int lv), .val (.int (3 : Int32)), .unset, .unset, .unset, .unset] [(.int (3 : Int32))])) tgt
                refine XS.iconst X7.here hx rfl (hb hby at_213) ?_
                show Steps p.tables e below (T7.setTop (mkF m 214 #[.val (.int xb), .val (.int xf), .val (.int xt), .val (.ref ba), .val (.int fv), .val (.int tv), .val (.int (own_res ef tv 5 fv)), .val (.int lv), .val (.int (3 : Int32)), .unset, .unset, .unset, .unset] [(.int (2 : Int32)), (.int (3 : Int32))])) tgt
                refine XS.icmpYes X7.here hx rfl (pc0 := 214) (pc' := 232) rfl (hb hby at_214) rfl (feq (by decide : ¬ ((3 : Int32) = (2 : Int32)))).2 (by decide) (by decide) ?_
                show Steps p.tables e below (T7.setTop (mkF m 232 #[.val (.int xb), .val (.int xf), .val (.int xt), .val (.ref ba), .val (.int fv), .val (.int tv), .val (.int (own_res ef tv 5 fv)), .val (.int lv), .val (.int (3 : Int32)), .unset, .unset, .unset, .unset] [])) tgt
                refine XS.iload X7.here hx rfl (hb hby at_232) rfl ?_
                show Steps p.tables e below (T7.setTop (mkF m 234 #[.val (.int xb), .val (.int xf), .val (.int xt), .val (.ref ba), .val (.int fv), .val (.int tv), .val (.int (own_res ef tv 5 fv)), .val (.int lv), .val (.int (3 : Int32)), .unset, .unset, .unset, .unset] [(.int (3 : Int32))])) tgt
                refine XS.iconst X7.here hx rfl (hb hby at_234) ?_
                show Steps p.tables e below (T7.setTop (mkF m 235 #[.val (.int xb), .val (.int xf), .val (.int xt), .val (.ref ba), .val (.int fv), .val (.int tv), .val (.int (own_res ef tv 5 fv)), .val (.int lv), .val (.int (3 : Int32)), .unset, .unset, .unset, .unset] [(.int (3 : Int32)), (.int (3 : Int32))])) tgt
                refine XS.icmpNo X7.here hx rfl (hb hby at_235) rfl (teq (by decide : (3 : Int32) = (3 : Int32))).2 ?_
                show Steps p.tables e below (T7.setTop (mkF m 238 #[.val (.int xb), .val (.int xf), .val (.int xt), .val (.ref ba), .val (.int fv), .val (.int tv), .val (.int (own_res ef tv 5 fv)), .val (.int lv), .val (.int (3 : Int32)), .unset, .unset, .unset, .unset] [])) tgt
                refine XS.iload X7.here hx rfl (hb hby at_238) rfl ?_
                show Steps p.tables e below (T7.setTop (mkF m 240 #[.val (.int xb), .val (.int xf), .val (.int xt), .val (.ref ba), .val (.int fv), .val (.int tv), .val (.int (own_res ef tv 5 fv)), .val (.int lv), .val (.int (3 : Int32)), .unset, .unset, .unset, .unset] [(.int lv)])) tgt
                refine XS.bipush X7.here hx rfl (hb hby at_240) ?_
                show Steps p.tables e below (T7.setTop (mkF m 242 #[.val (.int xb), .val (.int xf), .val (.int xt), .val (.ref ba), .val (.int fv), .val (.int tv), .val (.int (own_res ef tv 5 fv)), .val (.int lv), .val (.int (3 : Int32)), .unset, .unset, .unset, .unset] [(.int (15 : Int32)), (.int lv)])) tgt
                refine XS.iand X7.here hx rfl (hb hby at_242) rfl ?_
                show Steps p.tables e below (T7.setTop (mkF m 243 #[.val (.int xb), .val (.int xf), .val (.int xt), .val (.ref ba), .val (.int fv), .val (.int tv), .val (.int (own_res ef tv 5 fv)), .val (.int lv), .val (.int (3 : Int32)), .unset, .unset, .unset, .unset] [(.int (lv &&& (15 : Int32)))])) tgt
                refine XS.istore X7.here hx rfl (hb hby at_243) rfl (l' := #[.val (.int xb), .val (.int xf), .val (.int xt), .val (.ref ba), .val (.int fv), .val (.int tv), .val (.int (own_res ef tv 5 fv)), .val (.int lv), .val (.int (3 : Int32)), .val (.int (lv &&& (15 : Int32))), .unset, .unset, .unset]) rfl ?_
                show Steps p.tables e below (T7.setTop (mkF m 245 #[.val (.int xb), .val (.int xf), .val (.int xt), .val (.ref ba), .val (.int fv), .val (.int tv), .val (.int (own_res ef tv 5 fv)), .val (.int lv), .val (.int (3 : Int32)), .val (.int (lv &&& (15 : Int32))), .unset, .unset, .unset] [])) tgt
                refine XS.sipush X7.here hx rfl (hb hby at_245) ?_
                show Steps p.tables e below (T7.setTop (mkF m 248 #[.val (.int xb), .val (.int xf), .val (.int xt), .val (.ref ba), .val (.int fv), .val (.int tv), .val (.int (own_res ef tv 5 fv)), .val (.int lv), .val (.int (3 : Int32)), .val (.int (lv &&& (15 : Int32))), .unset, .unset, .unset] [(.int (2048 : Int32))])) tgt
                refine XS.istore X7.here hx rfl (hb hby at_248) rfl (l' := #[.val (.int xb), .val (.int xf), .val (.int xt), .val (.ref ba), .val (.int fv), .val (.int tv), .val (.int (own_res ef tv 5 fv)), .val (.int lv), .val (.int (3 : Int32)), .val (.int (lv &&& (15 : Int32))), .val (.int (2048 : Int32)), .unset, .unset]) rfl ?_
                show Steps p.tables e below (T7.setTop (mkF m 250 #[.val (.int xb), .val (.int xf), .val (.int xt), .val (.ref ba), .val (.int fv), .val (.int tv), .val (.int (own_res ef tv 5 fv)), .val (.int lv), .val (.int (3 : Int32)), .val (.int (lv &&& (15 : Int32))), .val (.int (2048 : Int32)), .unset, .unset] [])) tgt
                refine XS.goto X7.here hx rfl (pc0 := 250) (pc' := 264) rfl (hb hby at_250) (by decide) (by decide) ?_
                show Steps p.tables e below (T7.setTop (mkF m 264 #[.val (.int xb), .val (.int xf), .val (.int xt), .val (.ref ba), .val (.int fv), .val (.int tv), .val (.int (own_res ef tv 5 fv)), .val (.int lv), .val (.int (3 : Int32)), .val (.int (lv &&& (15 : Int32))), .val (.int (2048 : Int32)), .unset, .unset] [])) tgt
                refine XS.iconst X7.here hx rfl (hb hby at_264) ?_
                show Steps p.tables e below (T7.setTop (mkF m 265 #[.val (.int xb), .val (.int xf), .val (.int xt), .val (.ref ba), .val (.int fv), .val (.int tv), .val (.int (own_res ef tv 5 fv)), .val (.int lv), .val (.int (3 : Int32)), .val (.int (lv &&& (15 : Int32))), .val (.int (2048 : Int32)), .unset, .unset] [(.int (1 : Int32))])) tgt
                refine XS.istore X7.here hx rfl (hb hby at_265) rfl (l' := #[.val (.int xb), .val (.int xf), .val (.int xt), .val (.ref ba), .val (.int fv), .val (.int tv), .val (.int (own_res ef tv 5 fv)), .val (.int lv), .val (.int (3 : Int32)), .val (.int (lv &&& (15 : Int32))), .val (.int (2048 : Int32)), .val (.int (1 : Int32)), .unset]) rfl ?_
                show Steps p.tables e below (T7.setTop (mkF m 267 #[.val (.int xb), .val (.int xf), .val (.int xt), .val (.ref ba), .val (.int fv), .val (.int tv), .val (.int (own_res ef tv 5 fv)), .val (.int lv), .val (.int (3 : Int32)), .val (.int (lv &&& (15 : Int32))), .val (.int (2048 : Int32)), .val (.int (1 : Int32)), .unset] [])) tgt
                refine XS.iload X7.here hx rfl (hb hby at_267) rfl ?_
                show Steps p.tables e below (T7.setTop (mkF m 269 #[.val (.int xb), .val (.int xf), .val (.int xt), .val (.ref ba), .val (.int fv), .val (.int tv), .val (.int (own_res ef tv 5 fv)), .val (.int lv), .val (.int (3 : Int32)), .val (.int (lv &&& (15 : Int32))), .val (.int (2048 : Int32)), .val (.int (1 : Int32)), .unset] [(.int (3 : Int32))])) tgt
                refine XS.iconst X7.here hx rfl (hb hby at_269) ?_
                show Steps p.tables e below (T7.setTop (mkF m 270 #[.val (.int xb), .val (.int xf), .val (.int xt), .val (.ref ba), .val (.int fv), .val (.int tv), .val (.int (own_res ef tv 5 fv)), .val (.int lv), .val (.int (3 : Int32)), .val (.int (lv &&& (15 : Int32))), .val (.int (2048 : Int32)), .val (.int (1 : Int32)), .unset] [(.int (2 : Int32)), (.int (3 : Int32))])) tgt
                refine XS.icmpNo X7.here hx rfl (hb hby at_270) rfl (flt (by decide : ¬ ((3 : Int32) < (2 : Int32)))).1 ?_
                show Steps p.tables e below (T7.setTop (mkF m 273 #[.val (.int xb), .val (.int xf), .val (.int xt), .val (.ref ba), .val (.int fv), .val (.int tv), .val (.int (own_res ef tv 5 fv)), .val (.int lv), .val (.int (3 : Int32)), .val (.int (lv &&& (15 : Int32))), .val (.int (2048 : Int32)), .val (.int (1 : Int32)), .unset] [])) tgt
                refine XS.aloadN X7.here hx rfl (hb hby at_273) rfl rfl ?_
                show Steps p.tables e below (T7.setTop (mkF m 274 #[.val (.int xb), .val (.int xf), .val (.int xt), .val (.ref ba), .val (.int fv), .val (.int tv), .val (.int (own_res ef tv 5 fv)), .val (.int lv), .val (.int (3 : Int32)), .val (.int (lv &&& (15 : Int32))), .val (.int (2048 : Int32)), .val (.int (1 : Int32)), .unset] [(.ref ba)])) tgt
                refine XS.iload X7.here hx rfl (hb hby at_274) rfl ?_
                show Steps p.tables e below (T7.setTop (mkF m 276 #[.val (.int xb), .val (.int xf), .val (.int xt), .val (.ref ba), .val (.int fv), .val (.int tv), .val (.int (own_res ef tv 5 fv)), .val (.int lv), .val (.int (3 : Int32)), .val (.int (lv &&& (15 : Int32))), .val (.int (2048 : Int32)), .val (.int (1 : Int32)), .unset] [(.int fv), (.ref ba)])) tgt
                refine XS.iconst X7.here hx rfl (hb hby at_276) ?_
                show Steps p.tables e below (T7.setTop (mkF m 277 #[.val (.int xb), .val (.int xf), .val (.int xt), .val (.ref ba), .val (.int fv), .val (.int tv), .val (.int (own_res ef tv 5 fv)), .val (.int lv), .val (.int (3 : Int32)), .val (.int (lv &&& (15 : Int32))), .val (.int (2048 : Int32)), .val (.int (1 : Int32)), .unset] [(.int (1 : Int32)), (.int fv), (.ref ba)])) tgt
                refine XS.iadd X7.here hx rfl (hb hby at_277) rfl ?_
                show Steps p.tables e below (T7.setTop (mkF m 278 #[.val (.int xb), .val (.int xf), .val (.int xt), .val (.ref ba), .val (.int fv), .val (.int tv), .val (.int (own_res ef tv 5 fv)), .val (.int lv), .val (.int (3 : Int32)), .val (.int (lv &&& (15 : Int32))), .val (.int (2048 : Int32)), .val (.int (1 : Int32)), .unset] [(.int (fv + (1 : Int32))), (.ref ba)])) tgt
                refine own_baload X7 hx hZ K7 Ag_ba_6 (j := (fv + (1 : Int32))) (k := (fv.toInt.toNat + 1)) a1 (by omega) (g := (mkF m 278 #[.val (.int xb), .val (.int xf), .val (.int xt), .val (.ref ba), .val (.int fv), .val (.int tv), .val (.int (own_res ef tv 5 fv)), .val (.int lv), .val (.int (3 : Int32)), .val (.int (lv &&& (15 : Int32))), .val (.int (2048 : Int32)), .val (.int (1 : Int32)), .unset] [(.int (fv + (1 : Int32))), (.ref ba)])) rfl rfl (hb hby at_278) ?_
                show Steps p.tables e below (T7.setTop (mkF m 279 #[.val (.int xb), .val (.int xf), .val (.int xt), .val (.ref ba), .val (.int fv), .val (.int tv), .val (.int (own_res ef tv 5 fv)), .val (.int lv), .val (.int (3 : Int32)), .val (.int (lv &&& (15 : Int32))), .val (.int (2048 : Int32)), .val (.int (1 : Int32)), .unset] [(.int (ef (fv.toInt.toNat + 1)))])) tgt
                refine XS.sipush X7.here hx rfl (hb hby at_279) ?_
                show Steps p.tables e below (T7.setTop (mkF m 282 #[.val (.int xb), .val (.int xf), .val (.int xt), .val (.ref ba), .val (.int fv), .val (.int tv), .val (.int (own_res ef tv 5 fv)), .val (.int lv), .val (.int (3 : Int32)), .val (.int (lv &&& (15 : Int32))), .val (.int (2048 : Int32)), .val (.int (1 : Int32)), .unset] [(.int (255 : Int32)), (.int (ef (fv.toInt.toNat + 1)))])) tgt
                refine XS.iand X7.here hx rfl (hb hby at_282) rfl ?_
                show Steps p.tables e below (T7.setTop (mkF m 283 #[.val (.int xb), .val (.int xf), .val (.int xt), .val (.ref ba), .val (.int fv), .val (.int tv), .val (.int (own_res ef tv 5 fv)), .val (.int lv), .val (.int (3 : Int32)), .val (.int (lv &&& (15 : Int32))), .val (.int (2048 : Int32)), .val (.int (1 : Int32)), .unset] [(.int ((ef (fv.toInt.toNat + 1)) &&& (255 : Int32)))])) tgt
                refine XS.istore X7.here hx rfl (hb hby at_283) rfl (l' := #[.val (.int xb), .val (.int xf), .val (.int xt), .val (.ref ba), .val (.int fv), .val (.int tv), .val (.int (own_res ef tv 5 fv)), .val (.int lv), .val (.int (3 : Int32)), .val (.int (lv &&& (15 : Int32))), .val (.int (2048 : Int32)), .val (.int (1 : Int32)), .val (.int ((ef (fv.toInt.toNat + 1)) &&& (255 : Int32)))]) rfl ?_
                exact k
              obtain ⟨c1, hc1⟩ : ∃ z : Int32, z = ((ef (fv.toInt.toNat + 1)) &&& (255 : Int32)) := ⟨_, rfl⟩
              rw [← hc1]
              have hr1 : 0 ≤ c1.toInt ∧ c1.toInt ≤ 255 := by rw [hc1]; exact own_b255 _
              refine own_st (V := T7.setTop (mkF m 299 #[.val (.int xb), .val (.int xf), .val (.int xt), .val (.ref ba), .val (.int fv), .val (.int tv), .val (.int (own_res ef tv 5 fv)), .val (.int lv), .val (.int (3 : Int32)), .val (.int (lv &&& (15 : Int32))), .val (.int (2048 : Int32)), .val (.int (1 : Int32)), .val (.int c1)] [(.int (128 : Int32)), (.int (c1 &&& (192 : Int32)))])) (fun tgt k => ?_) ?_
              · show Steps p.tables e below (T7.setTop (mkF m 285 #[.val (.int xb), .val (.int xf), .val (.int xt), .val (.ref ba), .val (.int fv), .val (.int tv), .val (.int (own_res ef tv 5 fv)), .val (.int lv), .val (.int (3 : Int32)), .val (.int (lv &&& (15 : Int32))), .val (.int (2048 : Int32)), .val (.int (1 : Int32)), .val (.int c1)] [])) tgt
                refine XS.iload X7.here hx rfl (hb hby at_285) rfl ?_
                show Steps p.tables e below (T7.setTop (mkF m 287 #[.val (.int xb), .val (.int xf), .val (.int xt), .val (.ref ba), .val (.int fv), .val (.int tv), .val (.int (own_res ef tv 5 fv)), .val (.int lv), .val (.int (3 : Int32)), .val (.int (lv &&& (15 : Int32))), .val (.int (2048 : Int32)), .val (.int (1 : Int32)), .val (.int c1)] [(.int (1 : Int32))])) tgt
                refine XS.ifNo X7.here hx rfl (hb hby at_287) rfl ((if0 _ _).trans (feq (by decide : ¬ ((1 : Int32) = (0 : Int32)))).1) ?_
                show Steps p.tables e below (T7.setTop (mkF m 290 #[.val (.int xb), .val (.int xf), .val (.int xt), .val (.ref ba), .val (.int fv), .val (.int tv), .val (.int (own_res ef tv 5 fv)), .val (.int lv), .val (.int (3 : Int32)), .val (.int (lv &&& (15 : Int32))), .val (.int (2048 : Int32)), .val (.int (1 : Int32)), .val (.int c1)] [])) tgt
                refine XS.iload X7.here hx rfl (hb hby at_290) rfl ?_
                show Steps p.tables e below (T7.setTop (mkF m 292 #[.val (.int xb), .val (.int xf), .val (.int xt), .val (.ref ba), .val (.int fv), .val (.int tv), .val (.int (own_res ef tv 5 fv)), .val (.int lv), .val (.int (3 : Int32)), .val (.int (lv &&& (15 : Int32))), .val (.int (2048 : Int32)), .val (.int (1 : Int32)), .val (.int c1)] [(.int c1)])) tgt
                refine XS.sipush X7.here hx rfl (hb hby at_292) ?_
                show Steps p.tables e below (T7.setTop (mkF m 295 #[.val (.int xb), .val (.int xf), .val (.int xt), .val (.ref ba), .val (.int fv), .val (.int tv), .val (.int (own_res ef tv 5 fv)), .val (.int lv), .val (.int (3 : Int32)), .val (.int (lv &&& (15 : Int32))), .val (.int (2048 : Int32)), .val (.int (1 : Int32)), .val (.int c1)] [(.int (192 : Int32)), (.int c1)])) tgt
                refine XS.iand X7.here hx rfl (hb hby at_295) rfl ?_
                show Steps p.tables e below (T7.setTop (mkF m 296 #[.val (.int xb), .val (.int xf), .val (.int xt), .val (.ref ba), .val (.int fv), .val (.int tv), .val (.int (own_res ef tv 5 fv)), .val (.int lv), .val (.int (3 : Int32)), .val (.int (lv &&& (15 : Int32))), .val (.int (2048 : Int32)), .val (.int (1 : Int32)), .val (.int c1)] [(.int (c1 &&& (192 : Int32)))])) tgt
                refine XS.sipush X7.here hx rfl (hb hby at_296) ?_
                exact k
              obtain ⟨k1, hk1⟩ : ∃ z : Int32, z = (if (c1 &&& (192 : Int32)) = (128 : Int32) then (1 : Int32) else (0 : Int32)) := ⟨_, rfl⟩
              refine own_st (V := T7.setTop (mkF m 307 #[.val (.int xb), .val (.int xf), .val (.int xt), .val (.ref ba), .val (.int fv), .val (.int tv), .val (.int (own_res ef tv 5 fv)), .val (.int lv), .val (.int (3 : Int32)), .val (.int (lv &&& (15 : Int32))), .val (.int (2048 : Int32)), .val (.int (1 : Int32)), .val (.int c1)] [(.int k1)])) (fun tgt k => ?_) ?_
              · skip
                by_cases hc299_2 : (c1 &&& (192 : Int32)) = (128 : Int32)
                · skip
                  rw [if_pos hc299_2] at hk1
                  show Steps p.tables e below (T7.setTop (mkF m 299 #[.val (.int xb), .val (.int xf), .val (.int xt), .val (.ref ba), .val (.int fv), .val (.int tv), .val (.int (own_res ef tv 5 fv)), .val (.int lv), .val (.int (3 : Int32)), .val (.int (lv &&& (15 : Int32))), .val (.int (2048 : Int32)), .val (.int (1 : Int32)), .val (.int c1)] [(.int (128 : Int32)), (.int (c1 &&& (192 : Int32)))])) tgt
                  refine XS.icmpNo X7.here hx rfl (hb hby at_299) rfl (teq hc299_2).2 ?_
                  show Steps p.tables e below (T7.setTop (mkF m 302 #[.val (.int xb), .val (.int xf), .val (.int xt), .val (.ref ba), .val (.int fv), .val (.int tv), .val (.int (own_res ef tv 5 fv)), .val (.int lv), .val (.int (3 : Int32)), .val (.int (lv &&& (15 : Int32))), .val (.int (2048 : Int32)), .val (.int (1 : Int32)), .val (.int c1)] [])) tgt
                  refine XS.iconst X7.here hx rfl (hb hby at_302) ?_
                  show Steps p.tables e below (T7.setTop (mkF m 303 #[.val (.int xb), .val (.int xf), .val (.int xt), .val (.ref ba), .val (.int fv), .val (.int tv), .val (.int (own_res ef tv 5 fv)), .val (.int lv), .val (.int (3 : Int32)), .val (.int (lv &&& (15 : Int32))), .val (.int (2048 : Int32)), .val (.int (1 : Int32)), .val (.int c1)] [(.int (1 : Int32))])) tgt
                  refine XS.goto X7.here hx rfl (pc0 := 303) (pc' := 307) rfl (hb hby at_303) (by decide) (by decide) ?_
                  rw [hk1] at k
                  exact k
                · skip
                  rw [if_neg hc299_2] at hk1
                  show Steps p.tables e below (T7.setTop (mkF m 299 #[.val (.int xb), .val (.int xf), .val (.int xt), .val (.ref ba), .val (.int fv), .val (.int tv), .val (.int (own_res ef tv 5 fv)), .val (.int lv), .val (.int (3 : Int32)), .val (.int (lv &&& (15 : Int32))), .val (.int (2048 : Int32)), .val (.int (1 : Int32)), .val (.int c1)] [(.int (128 : Int32)), (.int (c1 &&& (192 : Int32)))])) tgt
                  refine XS.icmpYes X7.here hx rfl (pc0 := 299) (pc' := 306) rfl (hb hby at_299) rfl (feq hc299_2).2 (by decide) (by decide) ?_
                  show Steps p.tables e below (T7.setTop (mkF m 306 #[.val (.int xb), .val (.int xf), .val (.int xt), .val (.ref ba), .val (.int fv), .val (.int tv), .val (.int (own_res ef tv 5 fv)), .val (.int lv), .val (.int (3 : Int32)), .val (.int (lv &&& (15 : Int32))), .val (.int (2048 : Int32)), .val (.int (1 : Int32)), .val (.int c1)] [])) tgt
                  refine XS.iconst X7.here hx rfl (hb hby at_306) ?_
                  rw [hk1] at k
                  exact k
              refine own_st (V := T7.setTop (mkF m 322 #[.val (.int xb), .val (.int xf), .val (.int xt), .val (.ref ba), .val (.int fv), .val (.int tv), .val (.int (own_res ef tv 5 fv)), .val (.int lv), .val (.int (3 : Int32)), .val (.int (((lv &&& (15 : Int32)) <<< ((6 : Int32) &&& 31)) ||| (c1 &&& (63 : Int32)))), .val (.int (2048 : Int32)), .val (.int k1), .val (.int c1)] [])) (fun tgt k => ?_) ?_
              · show Steps p.tables e below (T7.setTop (mkF m 307 #[.val (.int xb), .val (.int xf), .val (.int xt), .val (.ref ba), .val (.int fv), .val (.int tv), .val (.int (own_res ef tv 5 fv)), .val (.int lv), .val (.int (3 : Int32)), .val (.int (lv &&& (15 : Int32))), .val (.int (2048 : Int32)), .val (.int (1 : Int32)), .val (.int c1)] [(.int k1)])) tgt
                refine XS.istore X7.here hx rfl (hb hby at_307) rfl (l' := #[.val (.int xb), .val (.int xf), .val (.int xt), .val (.ref ba), .val (.int fv), .val (.int tv), .val (.int (own_res ef tv 5 fv)), .val (.int lv), .val (.int (3 : Int32)), .val (.int (lv &&& (15 : Int32))), .val (.int (2048 : Int32)), .val (.int k1), .val (.int c1)]) rfl ?_
                show Steps p.tables e below (T7.setTop (mkF m 309 #[.val (.int xb), .val (.int xf), .val (.int xt), .val (.ref ba), .val (.int fv), .val (.int tv), .val (.int (own_res ef tv 5 fv)), .val (.int lv), .val (.int (3 : Int32)), .val (.int (lv &&& (15 : Int32))), .val (.int (2048 : Int32)), .val (.int k1), .val (.int c1)] [])) tgt
                refine XS.iload X7.here hx rfl (hb hby at_309) rfl ?_
                show Steps p.tables e below (T7.setTop (mkF m 311 #[.val (.int xb), .val (.int xf), .val (.int xt), .val (.ref ba), .val (.int fv), .val (.int tv), .val (.int (own_res ef tv 5 fv)), .val (.int lv), .val (.int (3 : Int32)), .val (.int (lv &&& (15 : Int32))), .val (.int (2048 : Int32)), .val (.int k1), .val (.int c1)] [(.int (lv &&& (15 : Int32)))])) tgt
                refine XS.bipush X7.here hx rfl (hb hby at_311) ?_
                show Steps p.tables e below (T7.setTop (mkF m 313 #[.val (.int xb), .val (.int xf), .val (.int xt), .val (.ref ba), .val (.int fv), .val (.int tv), .val (.int (own_res ef tv 5 fv)), .val (.int lv), .val (.int (3 : Int32)), .val (.int (lv &&& (15 : Int32))), .val (.int (2048 : Int32)), .val (.int k1), .val (.int c1)] [(.int (6 : Int32)), (.int (lv &&& (15 : Int32)))])) tgt
                refine XS.ishl X7.here hx rfl (hb hby at_313) rfl ?_
                show Steps p.tables e below (T7.setTop (mkF m 314 #[.val (.int xb), .val (.int xf), .val (.int xt), .val (.ref ba), .val (.int fv), .val (.int tv), .val (.int (own_res ef tv 5 fv)), .val (.int lv), .val (.int (3 : Int32)), .val (.int (lv &&& (15 : Int32))), .val (.int (2048 : Int32)), .val (.int k1), .val (.int c1)] [(.int ((lv &&& (15 : Int32)) <<< ((6 : Int32) &&& 31)))])) tgt
                refine XS.iload X7.here hx rfl (hb hby at_314) rfl ?_
                show Steps p.tables e below (T7.setTop (mkF m 316 #[.val (.int xb), .val (.int xf), .val (.int xt), .val (.ref ba), .val (.int fv), .val (.int tv), .val (.int (own_res ef tv 5 fv)), .val (.int lv), .val (.int (3 : Int32)), .val (.int (lv &&& (15 : Int32))), .val (.int (2048 : Int32)), .val (.int k1), .val (.int c1)] [(.int c1), (.int ((lv &&& (15 : Int32)) <<< ((6 : Int32) &&& 31)))])) tgt
                refine XS.bipush X7.here hx rfl (hb hby at_316) ?_
                show Steps p.tables e below (T7.setTop (mkF m 318 #[.val (.int xb), .val (.int xf), .val (.int xt), .val (.ref ba), .val (.int fv), .val (.int tv), .val (.int (own_res ef tv 5 fv)), .val (.int lv), .val (.int (3 : Int32)), .val (.int (lv &&& (15 : Int32))), .val (.int (2048 : Int32)), .val (.int k1), .val (.int c1)] [(.int (63 : Int32)), (.int c1), (.int ((lv &&& (15 : Int32)) <<< ((6 : Int32) &&& 31)))])) tgt
                refine XS.iand X7.here hx rfl (hb hby at_318) rfl ?_
                show Steps p.tables e below (T7.setTop (mkF m 319 #[.val (.int xb), .val (.int xf), .val (.int xt), .val (.ref ba), .val (.int fv), .val (.int tv), .val (.int (own_res ef tv 5 fv)), .val (.int lv), .val (.int (3 : Int32)), .val (.int (lv &&& (15 : Int32))), .val (.int (2048 : Int32)), .val (.int k1), .val (.int c1)] [(.int (c1 &&& (63 : Int32))), (.int ((lv &&& (15 : Int32)) <<< ((6 : Int32) &&& 31)))])) tgt
                refine XS.ior X7.here hx rfl (hb hby at_319) rfl ?_
                show Steps p.tables e below (T7.setTop (mkF m 320 #[.val (.int xb), .val (.int xf), .val (.int xt), .val (.ref ba), .val (.int fv), .val (.int tv), .val (.int (own_res ef tv 5 fv)), .val (.int lv), .val (.int (3 : Int32)), .val (.int (lv &&& (15 : Int32))), .val (.int (2048 : Int32)), .val (.int k1), .val (.int c1)] [(.int (((lv &&& (15 : Int32)) <<< ((6 : Int32) &&& 31)) ||| (c1 &&& (63 : Int32))))])) tgt
                refine XS.istore X7.here hx rfl (hb hby at_320) rfl (l' := #[.val (.int xb), .val (.int xf), .val (.int xt), .val (.ref ba), .val (.int fv), .val (.int tv), .val (.int (own_res ef tv 5 fv)), .val (.int lv), .val (.int (3 : Int32)), .val (.int (((lv &&& (15 : Int32)) <<< ((6 : Int32) &&& 31)) ||| (c1 &&& (63 : Int32)))), .val (.int (2048 : Int32)), .val (.int k1), .val (.int c1)]) rfl ?_
                exact k
              obtain ⟨q2, hq2⟩ : ∃ z : Int32, z = (((lv &&& (15 : Int32)) <<< ((6 : Int32) &&& 31)) ||| (c1 &&& (63 : Int32))) := ⟨_, rfl⟩
              rw [← hq2]
              refine own_st (V := T7.setTop (mkF m 340 #[.val (.int xb), .val (.int xf), .val (.int xt), .val (.ref ba), .val (.int fv), .val (.int tv), .val (.int (own_res ef tv 5 fv)), .val (.int lv), .val (.int (3 : Int32)), .val (.int q2), .val (.int (2048 : Int32)), .val (.int k1), .val (.int ((ef (fv.toInt.toNat + 2)) &&& (255 : Int32)))] [])) (fun tgt k => ?_) ?_
              · show Steps p.tables e below (T7.setTop (mkF m 322 #[.val (.int xb), .val (.int xf), .val (.int xt), .val (.ref ba), .val (.int fv), .val (.int tv), .val (.int (own_res ef tv 5 fv)), .val (.int lv), .val (.int (3 : Int32)), .val (.int q2), .val (.int (2048 : Int32)), .val (.int k1), .val (.int c1)] [])) tgt
                refine XS.iload X7.here hx rfl (hb hby at_322) rfl ?_
                show Steps p.tables e below (T7.setTop (mkF m 324 #[.val (.int xb), .val (.int xf), .val (.int xt), .val (.ref ba), .val (.int fv), .val (.int tv), .val (.int (own_res ef tv 5 fv)), .val (.int lv), .val (.int (3 : Int32)), .val (.int q2), .val (.int (2048 : Int32)), .val (.int k1), .val (.int c1)] [(.int (3 : Int32))])) tgt
                refine XS.iconst X7.here hx rfl (hb hby at_324) ?_
                show Steps p.tables e below (T7.setTop (mkF m 325 #[.val (.int xb), .val (.int xf), .val (.int xt), .val (.ref ba), .val (.int fv), .val (.int tv), .val (.int (own_res ef tv 5 fv)), .val (.int lv), .val (.int (3 : Int32)), .val (.int q2), .val (.int (2048 : Int32)), .val (.int k1), .val (.int c1)] [(.int (3 : Int32)), (.int (3 : Int32))])) tgt
                refine XS.icmpNo X7.here hx rfl (hb hby at_325) rfl (flt (by decide : ¬ ((3 : Int32) < (3 : Int32)))).1 ?_
                show Steps p.tables e below (T7.setTop (mkF m 328 #[.val (.int xb), .val (.int xf), .val (.int xt), .val (.ref ba), .val (.int fv), .val (.int tv), .val (.int (own_res ef tv 5 fv)), .val (.int lv), .val (.int (3 : Int32)), .val (.int q2), .val (.int (2048 : Int32)), .val (.int k1), .val (.int c1)] [])) tgt
                refine XS.aloadN X7.here hx rfl (hb hby at_328) rfl rfl ?_
                show Steps p.tables e below (T7.setTop (mkF m 329 #[.val (.int xb), .val (.int xf), .val (.int xt), .val (.ref ba), .val (.int fv), .val (.int tv), .val (.int (own_res ef tv 5 fv)), .val (.int lv), .val (.int (3 : Int32)), .val (.int q2), .val (.int (2048 : Int32)), .val (.int k1), .val (.int c1)] [(.ref ba)])) tgt
                refine XS.iload X7.here hx rfl (hb hby at_329) rfl ?_
                show Steps p.tables e below (T7.setTop (mkF m 331 #[.val (.int xb), .val (.int xf), .val (.int xt), .val (.ref ba), .val (.int fv), .val (.int tv), .val (.int (own_res ef tv 5 fv)), .val (.int lv), .val (.int (3 : Int32)), .val (.int q2), .val (.int (2048 : Int32)), .val (.int k1), .val (.int c1)] [(.int fv), (.ref ba)])) tgt
                refine XS.iconst X7.here hx rfl (hb hby at_331) ?_
                show Steps p.tables e below (T7.setTop (mkF m 332 #[.val (.int xb), .val (.int xf), .val (.int xt), .val (.ref ba), .val (.int fv), .val (.int tv), .val (.int (own_res ef tv 5 fv)), .val (.int lv), .val (.int (3 : Int32)), .val (.int q2), .val (.int (2048 : Int32)), .val (.int k1), .val (.int c1)] [(.int (2 : Int32)), (.int fv), (.ref ba)])) tgt
                refine XS.iadd X7.here hx rfl (hb hby at_332) rfl ?_
                show Steps p.tables e below (T7.setTop (mkF m 333 #[.val (.int xb), .val (.int xf), .val (.int xt), .val (.ref ba), .val (.int fv), .val (.int tv), .val (.int (own_res ef tv 5 fv)), .val (.int lv), .val (.int (3 : Int32)), .val (.int q2), .val (.int (2048 : Int32)), .val (.int k1), .val (.int c1)] [(.int (fv + (2 : Int32))), (.ref ba)])) tgt
                refine own_baload X7 hx hZ K7 Ag_ba_6 (j := (fv + (2 : Int32))) (k := (fv.toInt.toNat + 2)) a2 (by omega) (g := (mkF m 333 #[.val (.int xb), .val (.int xf), .val (.int xt), .val (.ref ba), .val (.int fv), .val (.int tv), .val (.int (own_res ef tv 5 fv)), .val (.int lv), .val (.int (3 : Int32)), .val (.int q2), .val (.int (2048 : Int32)), .val (.int k1), .val (.int c1)] [(.int (fv + (2 : Int32))), (.ref ba)])) rfl rfl (hb hby at_333) ?_
                show Steps p.tables e below (T7.setTop (mkF m 334 #[.val (.int xb), .val (.int xf), .val (.int xt), .val (.ref ba), .val (.int fv), .val (.int tv), .val (.int (own_res ef tv 5 fv)), .val (.int lv), .val (.int (3 : Int32)), .val (.int q2), .val (.int (2048 : Int32)), .val (.int k1), .val (.int c1)] [(.int (ef (fv.toInt.toNat + 2)))])) tgt
                refine XS.sipush X7.here hx rfl (hb hby at_334) ?_
                show Steps p.tables e below (T7.setTop (mkF m 337 #[.val (.int xb), .val (.int xf), .val (.int xt), .val (.ref ba), .val (.int fv), .val (.int tv), .val (.int (own_res ef tv 5 fv)), .val (.int lv), .val (.int (3 : Int32)), .val (.int q2), .val (.int (2048 : Int32)), .val (.int k1), .val (.int c1)] [(.int (255 : Int32)), (.int (ef (fv.toInt.toNat + 2)))])) tgt
                refine XS.iand X7.here hx rfl (hb hby at_337) rfl ?_
                show Steps p.tables e below (T7.setTop (mkF m 338 #[.val (.int xb), .val (.int xf), .val (.int xt), .val (.ref ba), .val (.int fv), .val (.int tv), .val (.int (own_res ef tv 5 fv)), .val (.int lv), .val (.int (3 : Int32)), .val (.int q2), .val (.int (2048 : Int32)), .val (.int k1), .val (.int c1)] [(.int ((ef (fv.toInt.toNat + 2)) &&& (255 : Int32)))])) tgt
                refine XS.istore X7.here hx rfl (hb hby at_338) rfl (l' := #[.val (.int xb), .val (.int xf), .val (.int xt), .val (.ref ba), .val (.int fv), .val (.int tv), .val (.int (own_res ef tv 5 fv)), .val (.int lv), .val (.int (3 : Int32)), .val (.int q2), .val (.int (2048 : Int32)), .val (.int k1), .val (.int ((ef (fv.toInt.toNat + 2)) &&& (255 : Int32)))]) rfl ?_
                exact k
              obtain ⟨c2, hc2⟩ : ∃ z : Int32, z = ((ef (fv.toInt.toNat + 2)) &&& (255 : Int32)) := ⟨_, rfl⟩
              rw [← hc2]
              have hr2 : 0 ≤ c2.toInt ∧ c2.toInt ≤ 255 := by rw [hc2]; exact own_b255 _
              refine own_st (V := T7.setTop (mkF m 342 #[.val (.int xb), .val (.int xf), .val (.int xt), .val (.ref ba), .val (.int fv), .val (.int tv), .val (.int (own_res ef tv 5 fv)), .val (.int lv), .val (.int (3 : Int32)), .val (.int q2), .val (.int (2048 : Int32)), .val (.int k1), .val (.int c2)] [(.int k1)])) (fun tgt k => ?_) ?_
              · show Steps p.tables e below (T7.setTop (mkF m 340 #[.val (.int xb), .val (.int xf), .val (.int xt), .val (.ref ba), .val (.int fv), .val (.int tv), .val (.int (own_res ef tv 5 fv)), .val (.int lv), .val (.int (3 : Int32)), .val (.int q2), .val (.int (2048 : Int32)), .val (.int k1), .val (.int c2)] [])) tgt
                refine XS.iload X7.here hx rfl (hb hby at_340) rfl ?_
                exact k
              obtain ⟨k2, hk2⟩ : ∃ z : Int32, z = (if k1 = (0 : Int32) then (0 : Int32) else (if (c2 &&& (192 : Int32)) = (128 : Int32) then (1 : Int32) else (0 : Int32))) := ⟨_, rfl⟩
              refine own_st (V := T7.setTop (mkF m 362 #[.val (.int xb), .val (.int xf), .val (.int xt), .val (.ref ba), .val (.int fv), .val (.int tv), .val (.int (own_res ef tv 5 fv)), .val (.int lv), .val (.int (3 : Int32)), .val (.int q2), .val (.int (2048 : Int32)), .val (.int k1), .val (.int c2)] [(.int k2)])) (fun tgt k => ?_) ?_
              · skip
                by_cases hc342_2 : k1 = (0 : Int32)
                · skip
                  rw [if_pos hc342_2] at hk2
                  show Steps p.tables e below (T7.setTop (mkF m 342 #[.val (.int xb), .val (.int xf), .val (.int xt), .val (.ref ba), .val (.int fv), .val (.int tv), .val (.int (own_res ef tv 5 fv)), .val (.int lv), .val (.int (3 : Int32)), .val (.int q2), .val (.int (2048 : Int32)), .val (.int k1), .val (.int c2)] [(.int k1)])) tgt
                  refine XS.ifYes X7.here hx rfl (pc0 := 342) (pc' := 361) rfl (hb hby at_342) rfl ((if0 _ _).trans (teq hc342_2).1) (by decide) (by decide) ?_
                  show Steps p.tables e below (T7.setTop (mkF m 361 #[.val (.int xb), .val (.int xf), .val (.int xt), .val (.ref ba), .val (.int fv), .val (.int tv), .val (.int (own_res ef tv 5 fv)), .val (.int lv), .val (.int (3 : Int32)), .val (.int q2), .val (.int (2048 : Int32)), .val (.int k1), .val (.int c2)] [])) tgt
                  refine XS.iconst X7.here hx rfl (hb hby at_361) ?_
                  rw [hk2] at k
                  exact k
                · skip
                  rw [if_neg hc342_2] at hk2
                  show Steps p.tables e below (T7.setTop (mkF m 342 #[.val (.int xb), .val (.int xf), .val (.int xt), .val (.ref ba), .val (.int fv), .val (.int tv), .val (.int (own_res ef tv 5 fv)), .val (.int lv), .val (.int (3 : Int32)), .val (.int q2), .val (.int (2048 : Int32)), .val (.int k1), .val (.int c2)] [(.int k1)])) tgt
                  refine XS.ifNo X7.here hx rfl (hb hby at_342) rfl ((if0 _ _).trans (feq hc342_2).1) ?_
                  show Steps p.tables e below (T7.setTop (mkF m 345 #[.val (.int xb), .val (.int xf), .val (.int xt), .val (.ref ba), .val (.int fv), .val (.int tv), .val (.int (own_res ef tv 5 fv)), .val (.int lv), .val (.int (3 : Int32)), .val (.int q2), .val (.int (2048 : Int32)), .val (.int k1), .val (.int c2)] [])) tgt
                  refine XS.iload X7.here hx rfl (hb hby at_345) rfl ?_
                  show Steps p.tables e below (T7.setTop (mkF m 347 #[.val (.int xb), .val (.int xf), .val (.int xt), .val (.ref ba), .val (.int fv), .val (.int tv), .val (.int (own_res ef tv 5 fv)), .val (.int lv), .val (.int (3 : Int32)), .val (.int q2), .val (.int (2048 : Int32)), .val (.int k1), .val (.int c2)] [(.int c2)])) tgt
                  refine XS.sipush X7.here hx rfl (hb hby at_347) ?_
                  show Steps p.tables e below (T7.setTop (mkF m 350 #[.val (.int xb), .val (.int xf), .val (.int xt), .val (.ref ba), .val (.int fv), .val (.int tv), .val (.int (own_res ef tv 5 fv)), .val (.int lv), .val (.int (3 : Int32)), .val (.int q2), .val (.int (2048 : Int32)), .val (.int k1), .val (.int c2)] [(.int (192 : Int32)), (.int c2)])) tgt
                  refine XS.iand X7.here hx rfl (hb hby at_350) rfl ?_
                  show Steps p.tables e below (T7.setTop (mkF m 351 #[.val (.int xb), .val (.int xf), .val (.int xt), .val (.ref ba), .val (.int fv), .val (.int tv), .val (.int (own_res ef tv 5 fv)), .val (.int lv), .val (.int (3 : Int32)), .val (.int q2), .val (.int (2048 : Int32)), .val (.int k1), .val (.int c2)] [(.int (c2 &&& (192 : Int32)))])) tgt
                  refine XS.sipush X7.here hx rfl (hb hby at_351) ?_
                  by_cases hc354 : (c2 &&& (192 : Int32)) = (128 : Int32)
                  · skip
                    rw [if_pos hc354] at hk2
                    show Steps p.tables e below (T7.setTop (mkF m 354 #[.val (.int xb), .val (.int xf), .val (.int xt), .val (.ref ba), .val (.int fv), .val (.int tv), .val (.int (own_res ef tv 5 fv)), .val (.int lv), .val (.int (3 : Int32)), .val (.int q2), .val (.int (2048 : Int32)), .val (.int k1), .val (.int c2)] [(.int (128 : Int32)), (.int (c2 &&& (192 : Int32)))])) tgt
                    refine XS.icmpNo X7.here hx rfl (hb hby at_354) rfl (teq hc354).2 ?_
                    show Steps p.tables e below (T7.setTop (mkF m 357 #[.val (.int xb), .val (.int xf), .val (.int xt), .val (.ref ba), .val (.int fv), .val (.int tv), .val (.int (own_res ef tv 5 fv)), .val (.int lv), .val (.int (3 : Int32)), .val (.int q2), .val (.int (2048 : Int32)), .val (.int k1), .val (.int c2)] [])) tgt
                    refine XS.iconst X7.here hx rfl (hb hby at_357) ?_
                    show Steps p.tables e below (T7.setTop (mkF m 358 #[.val (.int xb), .val (.int xf), .val (.int xt), .val (.ref ba), .val (.int fv), .val (.int tv), .val (.int (own_res ef tv 5 fv)), .val (.int lv), .val (.int (3 : Int32)), .val (.int q2), .val (.int (2048 : Int32)), .val (.int k1), .val (.int c2)] [(.int (1 : Int32))])) tgt
                    refine XS.goto X7.here hx rfl (pc0 := 358) (pc' := 362) rfl (hb hby at_358) (by decide) (by decide) ?_
                    rw [hk2] at k
                    exact k
                  · skip
                    rw [if_neg hc354] at hk2
                    show Steps p.tables e below (T7.setTop (mkF m 354 #[.val (.int xb), .val (.int xf), .val (.int xt), .val (.ref ba), .val (.int fv), .val (.int tv), .val (.int (own_res ef tv 5 fv)), .val (.int lv), .val (.int (3 : Int32)), .val (.int q2), .val (.int (2048 : Int32)), .val (.int k1), .val (.int c2)] [(.int (128 : Int32)), (.int (c2 &&& (192 : Int32)))])) tgt
                    refine XS.icmpYes X7.here hx rfl (pc0 := 354) (pc' := 361) rfl (hb hby at_354) rfl (feq hc354).2 (by decide) (by decide) ?_
                    show Steps p.tables e below (T7.setTop (mkF m 361 #[.val (.int xb), .val (.int xf), .val (.int xt), .val (.ref ba), .val (.int fv), .val (.int tv), .val (.int (own_res ef tv 5 fv)), .val (.int lv), .val (.int (3 : Int32)), .val (.int q2), .val (.int (2048 : Int32)), .val (.int k1), .val (.int c2)] [])) tgt
                    refine XS.iconst X7.here hx rfl (hb hby at_361) ?_
                    rw [hk2] at k
                    exact k
              refine own_st (V := T7.setTop (mkF m 377 #[.val (.int xb), .val (.int xf), .val (.int xt), .val (.ref ba), .val (.int fv), .val (.int tv), .val (.int (own_res ef tv 5 fv)), .val (.int lv), .val (.int (3 : Int32)), .val (.int ((q2 <<< ((6 : Int32) &&& 31)) ||| (c2 &&& (63 : Int32)))), .val (.int (2048 : Int32)), .val (.int k2), .val (.int c2)] [])) (fun tgt k => ?_) ?_
              · show Steps p.tables e below (T7.setTop (mkF m 362 #[.val (.int xb), .val (.int xf), .val (.int xt), .val (.ref ba), .val (.int fv), .val (.int tv), .val (.int (own_res ef tv 5 fv)), .val (.int lv), .val (.int (3 : Int32)), .val (.int q2), .val (.int (2048 : Int32)), .val (.int k1), .val (.int c2)] [(.int k2)])) tgt
                refine XS.istore X7.here hx rfl (hb hby at_362) rfl (l' := #[.val (.int xb), .val (.int xf), .val (.int xt), .val (.ref ba), .val (.int fv), .val (.int tv), .val (.int (own_res ef tv 5 fv)), .val (.int lv), .val (.int (3 : Int32)), .val (.int q2), .val (.int (2048 : Int32)), .val (.int k2), .val (.int c2)]) rfl ?_
                show Steps p.tables e below (T7.setTop (mkF m 364 #[.val (.int xb), .val (.int xf), .val (.int xt), .val (.ref ba), .val (.int fv), .val (.int tv), .val (.int (own_res ef tv 5 fv)), .val (.int lv), .val (.int (3 : Int32)), .val (.int q2), .val (.int (2048 : Int32)), .val (.int k2), .val (.int c2)] [])) tgt
                refine XS.iload X7.here hx rfl (hb hby at_364) rfl ?_
                show Steps p.tables e below (T7.setTop (mkF m 366 #[.val (.int xb), .val (.int xf), .val (.int xt), .val (.ref ba), .val (.int fv), .val (.int tv), .val (.int (own_res ef tv 5 fv)), .val (.int lv), .val (.int (3 : Int32)), .val (.int q2), .val (.int (2048 : Int32)), .val (.int k2), .val (.int c2)] [(.int q2)])) tgt
                refine XS.bipush X7.here hx rfl (hb hby at_366) ?_
                show Steps p.tables e below (T7.setTop (mkF m 368 #[.val (.int xb), .val (.int xf), .val (.int xt), .val (.ref ba), .val (.int fv), .val (.int tv), .val (.int (own_res ef tv 5 fv)), .val (.int lv), .val (.int (3 : Int32)), .val (.int q2), .val (.int (2048 : Int32)), .val (.int k2), .val (.int c2)] [(.int (6 : Int32)), (.int q2)])) tgt
                refine XS.ishl X7.here hx rfl (hb hby at_368) rfl ?_
                show Steps p.tables e below (T7.setTop (mkF m 369 #[.val (.int xb), .val (.int xf), .val (.int xt), .val (.ref ba), .val (.int fv), .val (.int tv), .val (.int (own_res ef tv 5 fv)), .val (.int lv), .val (.int (3 : Int32)), .val (.int q2), .val (.int (2048 : Int32)), .val (.int k2), .val (.int c2)] [(.int (q2 <<< ((6 : Int32) &&& 31)))])) tgt
                refine XS.iload X7.here hx rfl (hb hby at_369) rfl ?_
                show Steps p.tables e below (T7.setTop (mkF m 371 #[.val (.int xb), .val (.int xf), .val (.int xt), .val (.ref ba), .val (.int fv), .val (.int tv), .val (.int (own_res ef tv 5 fv)), .val (.int lv), .val (.int (3 : Int32)), .val (.int q2), .val (.int (2048 : Int32)), .val (.int k2), .val (.int c2)] [(.int c2), (.int (q2 <<< ((6 : Int32) &&& 31)))])) tgt
                refine XS.bipush X7.here hx rfl (hb hby at_371) ?_
                show Steps p.tables e below (T7.setTop (mkF m 373 #[.val (.int xb), .val (.int xf), .val (.int xt), .val (.ref ba), .val (.int fv), .val (.int tv), .val (.int (own_res ef tv 5 fv)), .val (.int lv), .val (.int (3 : Int32)), .val (.int q2), .val (.int (2048 : Int32)), .val (.int k2), .val (.int c2)] [(.int (63 : Int32)), (.int c2), (.int (q2 <<< ((6 : Int32) &&& 31)))])) tgt
                refine XS.iand X7.here hx rfl (hb hby at_373) rfl ?_
                show Steps p.tables e below (T7.setTop (mkF m 374 #[.val (.int xb), .val (.int xf), .val (.int xt), .val (.ref ba), .val (.int fv), .val (.int tv), .val (.int (own_res ef tv 5 fv)), .val (.int lv), .val (.int (3 : Int32)), .val (.int q2), .val (.int (2048 : Int32)), .val (.int k2), .val (.int c2)] [(.int (c2 &&& (63 : Int32))), (.int (q2 <<< ((6 : Int32) &&& 31)))])) tgt
                refine XS.ior X7.here hx rfl (hb hby at_374) rfl ?_
                show Steps p.tables e below (T7.setTop (mkF m 375 #[.val (.int xb), .val (.int xf), .val (.int xt), .val (.ref ba), .val (.int fv), .val (.int tv), .val (.int (own_res ef tv 5 fv)), .val (.int lv), .val (.int (3 : Int32)), .val (.int q2), .val (.int (2048 : Int32)), .val (.int k2), .val (.int c2)] [(.int ((q2 <<< ((6 : Int32) &&& 31)) ||| (c2 &&& (63 : Int32))))])) tgt
                refine XS.istore X7.here hx rfl (hb hby at_375) rfl (l' := #[.val (.int xb), .val (.int xf), .val (.int xt), .val (.ref ba), .val (.int fv), .val (.int tv), .val (.int (own_res ef tv 5 fv)), .val (.int lv), .val (.int (3 : Int32)), .val (.int ((q2 <<< ((6 : Int32) &&& 31)) ||| (c2 &&& (63 : Int32)))), .val (.int (2048 : Int32)), .val (.int k2), .val (.int c2)]) rfl ?_
                exact k
              obtain ⟨q3, hq3⟩ : ∃ z : Int32, z = ((q2 <<< ((6 : Int32) &&& 31)) ||| (c2 &&& (63 : Int32))) := ⟨_, rfl⟩
              rw [← hq3]
              refine own_st (V := T7.setTop (mkF m 434 #[.val (.int xb), .val (.int xf), .val (.int xt), .val (.ref ba), .val (.int fv), .val (.int tv), .val (.int (own_res ef tv 5 fv)), .val (.int lv), .val (.int (3 : Int32)), .val (.int q3), .val (.int (2048 : Int32)), .val (.int k2), .val (.int c2)] [(.int k2)])) (fun tgt k => ?_) ?_
              · show Steps p.tables e below (T7.setTop (mkF m 377 #[.val (.int xb), .val (.int xf), .val (.int xt), .val (.ref ba), .val (.int fv), .val (.int tv), .val (.int (own_res ef tv 5 fv)), .val (.int lv), .val (.int (3 : Int32)), .val (.int q3), .val (.int (2048 : Int32)), .val (.int k2), .val (.int c2)] [])) tgt
                refine XS.iload X7.here hx rfl (hb hby at_377) rfl ?_
                show Steps p.tables e below (T7.setTop (mkF m 379 #[.val (.int xb), .val (.int xf), .val (.int xt), .val (.ref ba), .val (.int fv), .val (.int tv), .val (.int (own_res ef tv 5 fv)), .val (.int lv), .val (.int (3 : Int32)), .val (.int q3), .val (.int (2048 : Int32)), .val (.int k2), .val (.int c2)] [(.int (3 : Int32))])) tgt
                refine XS.iconst X7.here hx rfl (hb hby at_379) ?_
                show Steps p.tables e below (T7.setTop (mkF m 380 #[.val (.int xb), .val (.int xf), .val (.int xt), .val (.ref ba), .val (.int fv), .val (.int tv), .val (.int (own_res ef tv 5 fv)), .val (.int lv), .val (.int (3 : Int32)), .val (.int q3), .val (.int (2048 : Int32)), .val (.int k2), .val (.int c2)] [(.int (4 : Int32)), (.int (3 : Int32))])) tgt
                refine XS.icmpYes X7.here hx rfl (pc0 := 380) (pc' := 432) rfl (hb hby at_380) rfl (tlt (by decide : (3 : Int32) < (4 : Int32))).1 (by decide) (by decide) ?_
                show Steps p.tables e below (T7.setTop (mkF m 432 #[.val (.int xb), .val (.int xf), .val (.int xt), .val (.ref ba), .val (.int fv), .val (.int tv), .val (.int (own_res ef tv 5 fv)), .val (.int lv), .val (.int (3 : Int32)), .val (.int q3), .val (.int (2048 : Int32)), .val (.int k2), .val (.int c2)] [])) tgt
                refine XS.iload X7.here hx rfl (hb hby at_432) rfl ?_
                exact k
              obtain ⟨vd, hvd⟩ : ∃ z : Int32, z = (if k2 = (0 : Int32) then (0 : Int32) else (if q3 < (2048 : Int32) then (0 : Int32) else (if (1114111 : Int32) < q3 then (0 : Int32) else (if q3 < (55296 : Int32) then (1 : Int32) else (if (57343 : Int32) < q3 then (1 : Int32) else (0 : Int32)))))) := ⟨_, rfl⟩
              refine own_st (V := T7.setTop (mkF m 470 #[.val (.int xb), .val (.int xf), .val (.int xt), .val (.ref ba), .val (.int fv), .val (.int tv), .val (.int (own_res ef tv 5 fv)), .val (.int lv), .val (.int (3 : Int32)), .val (.int q3), .val (.int (2048 : Int32)), .val (.int k2), .val (.int c2)] [(.int vd)])) (fun tgt k => ?_) ?_
              · skip
                by_cases hc434_2 : k2 = (0 : Int32)
                · skip
                  rw [if_pos hc434_2] at hvd
                  show Steps p.tables e below (T7.setTop (mkF m 434 #[.val (.int xb), .val (.int xf), .val (.int xt), .val (.ref ba), .val (.int fv), .val (.int tv), .val (.int (own_res ef tv 5 fv)), .val (.int lv), .val (.int (3 : Int32)), .val (.int q3), .val (.int (2048 : Int32)), .val (.int k2), .val (.int c2)] [(.int k2)])) tgt
                  refine XS.ifYes X7.here hx rfl (pc0 := 434) (pc' := 469) rfl (hb hby at_434) rfl ((if0 _ _).trans (teq hc434_2).1) (by decide) (by decide) ?_
                  show Steps p.tables e below (T7.setTop (mkF m 469 #[.val (.int xb), .val (.int xf), .val (.int xt), .val (.ref ba), .val (.int fv), .val (.int tv), .val (.int (own_res ef tv 5 fv)), .val (.int lv), .val (.int (3 : Int32)), .val (.int q3), .val (.int (2048 : Int32)), .val (.int k2), .val (.int c2)] [])) tgt
                  refine XS.iconst X7.here hx rfl (hb hby at_469) ?_
                  rw [hvd] at k
                  exact k
                · skip
                  rw [if_neg hc434_2] at hvd
                  show Steps p.tables e below (T7.setTop (mkF m 434 #[.val (.int xb), .val (.int xf), .val (.int xt), .val (.ref ba), .val (.int fv), .val (.int tv), .val (.int (own_res ef tv 5 fv)), .val (.int lv), .val (.int (3 : Int32)), .val (.int q3), .val (.int (2048 : Int32)), .val (.int k2), .val (.int c2)] [(.int k2)])) tgt
                  refine XS.ifNo X7.here hx rfl (hb hby at_434) rfl ((if0 _ _).trans (feq hc434_2).1) ?_
                  show Steps p.tables e below (T7.setTop (mkF m 437 #[.val (.int xb), .val (.int xf), .val (.int xt), .val (.ref ba), .val (.int fv), .val (.int tv), .val (.int (own_res ef tv 5 fv)), .val (.int lv), .val (.int (3 : Int32)), .val (.int q3), .val (.int (2048 : Int32)), .val (.int k2), .val (.int c2)] [])) tgt
                  refine XS.iload X7.here hx rfl (hb hby at_437) rfl ?_
                  show Steps p.tables e below (T7.setTop (mkF m 439 #[.val (.int xb), .val (.int xf), .val (.int xt), .val (.ref ba), .val (.int fv), .val (.int tv), .val (.int (own_res ef tv 5 fv)), .val (.int lv), .val (.int (3 : Int32)), .val (.int q3), .val (.int (2048 : Int32)), .val (.int k2), .val (.int c2)] [(.int q3)])) tgt
                  refine XS.iload X7.here hx rfl (hb hby at_439) rfl ?_
                  by_cases hc441 : q3 < (2048 : Int32)
                  · skip
                    rw [if_pos hc441] at hvd
                    show Steps p.tables e below (T7.setTop (mkF m 441 #[.val (.int xb), .val (.int xf), .val (.int xt), .val (.ref ba), .val (.int fv), .val (.int tv), .val (.int (own_res ef tv 5 fv)), .val (.int lv), .val (.int (3 : Int32)), .val (.int q3), .val (.int (2048 : Int32)), .val (.int k2), .val (.int c2)] [(.int (2048 : Int32)), (.int q3)])) tgt
                    refine XS.icmpYes X7.here hx rfl (pc0 := 441) (pc' := 469) rfl (hb hby at_441) rfl (tlt hc441).1 (by decide) (by decide) ?_
                    show Steps p.tables e below (T7.setTop (mkF m 469 #[.val (.int xb), .val (.int xf), .val (.int xt), .val (.ref ba), .val (.int fv), .val (.int tv), .val (.int (own_res ef tv 5 fv)), .val (.int lv), .val (.int (3 : Int32)), .val (.int q3), .val (.int (2048 : Int32)), .val (.int k2), .val (.int c2)] [])) tgt
                    refine XS.iconst X7.here hx rfl (hb hby at_469) ?_
                    rw [hvd] at k
                    exact k
                  · skip
                    rw [if_neg hc441] at hvd
                    show Steps p.tables e below (T7.setTop (mkF m 441 #[.val (.int xb), .val (.int xf), .val (.int xt), .val (.ref ba), .val (.int fv), .val (.int tv), .val (.int (own_res ef tv 5 fv)), .val (.int lv), .val (.int (3 : Int32)), .val (.int q3), .val (.int (2048 : Int32)), .val (.int k2), .val (.int c2)] [(.int (2048 : Int32)), (.int q3)])) tgt
                    refine XS.icmpNo X7.here hx rfl (hb hby at_441) rfl (flt hc441).1 ?_
                    show Steps p.tables e below (T7.setTop (mkF m 444 #[.val (.int xb), .val (.int xf), .val (.int xt), .val (.ref ba), .val (.int fv), .val (.int tv), .val (.int (own_res ef tv 5 fv)), .val (.int lv), .val (.int (3 : Int32)), .val (.int q3), .val (.int (2048 : Int32)), .val (.int k2), .val (.int c2)] [])) tgt
                    refine XS.iload X7.here hx rfl (hb hby at_444) rfl ?_
                    show Steps p.tables e below (T7.setTop (mkF m 446 #[.val (.int xb), .val (.int xf), .val (.int xt), .val (.ref ba), .val (.int fv), .val (.int tv), .val (.int (own_res ef tv 5 fv)), .val (.int lv), .val (.int (3 : Int32)), .val (.int q3), .val (.int (2048 : Int32)), .val (.int k2), .val (.int c2)] [(.int q3)])) tgt
                    refine X7.ldcInt hx hown (mvT hZ (hw _ (List.mem_of_getElem? (i := 6) rfl))) (g := (mkF m 446 #[.val (.int xb), .val (.int xf), .val (.int xt), .val (.ref ba), .val (.int fv), .val (.int tv), .val (.int (own_res ef tv 5 fv)), .val (.int lv), .val (.int (3 : Int32)), .val (.int q3), .val (.int (2048 : Int32)), .val (.int k2), .val (.int c2)] [(.int q3)])) rfl (hb hby at_446) _ ?_
                    by_cases hc448 : (1114111 : Int32) < q3
                    · skip
                      rw [if_pos hc448] at hvd
                      show Steps p.tables e below (T7.setTop (mkF m 448 #[.val (.int xb), .val (.int xf), .val (.int xt), .val (.ref ba), .val (.int fv), .val (.int tv), .val (.int (own_res ef tv 5 fv)), .val (.int lv), .val (.int (3 : Int32)), .val (.int q3), .val (.int (2048 : Int32)), .val (.int k2), .val (.int c2)] [(.int (1114111 : Int32)), (.int q3)])) tgt
                      refine XS.icmpYes X7.here hx rfl (pc0 := 448) (pc' := 469) rfl (hb hby at_448) rfl (tlt hc448).2.2.1 (by decide) (by decide) ?_
                      show Steps p.tables e below (T7.setTop (mkF m 469 #[.val (.int xb), .val (.int xf), .val (.int xt), .val (.ref ba), .val (.int fv), .val (.int tv), .val (.int (own_res ef tv 5 fv)), .val (.int lv), .val (.int (3 : Int32)), .val (.int q3), .val (.int (2048 : Int32)), .val (.int k2), .val (.int c2)] [])) tgt
                      refine XS.iconst X7.here hx rfl (hb hby at_469) ?_
                      rw [hvd] at k
                      exact k
                    · skip
                      rw [if_neg hc448] at hvd
                      show Steps p.tables e below (T7.setTop (mkF m 448 #[.val (.int xb), .val (.int xf), .val (.int xt), .val (.ref ba), .val (.int fv), .val (.int tv), .val (.int (own_res ef tv 5 fv)), .val (.int lv), .val (.int (3 : Int32)), .val (.int q3), .val (.int (2048 : Int32)), .val (.int k2), .val (.int c2)] [(.int (1114111 : Int32)), (.int q3)])) tgt
                      refine XS.icmpNo X7.here hx rfl (hb hby at_448) rfl (flt hc448).2.2.1 ?_
                      show Steps p.tables e below (T7.setTop (mkF m 451 #[.val (.int xb), .val (.int xf), .val (.int xt), .val (.ref ba), .val (.int fv), .val (.int tv), .val (.int (own_res ef tv 5 fv)), .val (.int lv), .val (.int (3 : Int32)), .val (.int q3), .val (.int (2048 : Int32)), .val (.int k2), .val (.int c2)] [])) tgt
                      refine XS.iload X7.here hx rfl (hb hby at_451) rfl ?_
                      show Steps p.tables e below (T7.setTop (mkF m 453 #[.val (.int xb), .val (.int xf), .val (.int xt), .val (.ref ba), .val (.int fv), .val (.int tv), .val (.int (own_res ef tv 5 fv)), .val (.int lv), .val (.int (3 : Int32)), .val (.int q3), .val (.int (2048 : Int32)), .val (.int k2), .val (.int c2)] [(.int q3)])) tgt
                      refine X7.ldcInt hx hown (mvT hZ (hw _ (List.mem_of_getElem? (i := 7) rfl))) (g := (mkF m 453 #[.val (.int xb), .val (.int xf), .val (.int xt), .val (.ref ba), .val (.int fv), .val (.int tv), .val (.int (own_res ef tv 5 fv)), .val (.int lv), .val (.int (3 : Int32)), .val (.int q3), .val (.int (2048 : Int32)), .val (.int k2), .val (.int c2)] [(.int q3)])) rfl (hb hby at_453) _ ?_
                      by_cases hc455 : q3 < (55296 : Int32)
                      · skip
                        rw [if_pos hc455] at hvd
                        show Steps p.tables e below (T7.setTop (mkF m 455 #[.val (.int xb), .val (.int xf), .val (.int xt), .val (.ref ba), .val (.int fv), .val (.int tv), .val (.int (own_res ef tv 5 fv)), .val (.int lv), .val (.int (3 : Int32)), .val (.int q3), .val (.int (2048 : Int32)), .val (.int k2), .val (.int c2)] [(.int (55296 : Int32)), (.int q3)])) tgt
                        refine XS.icmpYes X7.here hx rfl (pc0 := 455) (pc' := 465) rfl (hb hby at_455) rfl (tlt hc455).1 (by decide) (by decide) ?_
                        show Steps p.tables e below (T7.setTop (mkF m 465 #[.val (.int xb), .val (.int xf), .val (.int xt), .val (.ref ba), .val (.int fv), .val (.int tv), .val (.int (own_res ef tv 5 fv)), .val (.int lv), .val (.int (3 : Int32)), .val (.int q3), .val (.int (2048 : Int32)), .val (.int k2), .val (.int c2)] [])) tgt
                        refine XS.iconst X7.here hx rfl (hb hby at_465) ?_
                        show Steps p.tables e below (T7.setTop (mkF m 466 #[.val (.int xb), .val (.int xf), .val (.int xt), .val (.ref ba), .val (.int fv), .val (.int tv), .val (.int (own_res ef tv 5 fv)), .val (.int lv), .val (.int (3 : Int32)), .val (.int q3), .val (.int (2048 : Int32)), .val (.int k2), .val (.int c2)] [(.int (1 : Int32))])) tgt
                        refine XS.goto X7.here hx rfl (pc0 := 466) (pc' := 470) rfl (hb hby at_466) (by decide) (by decide) ?_
                        rw [hvd] at k
                        exact k
                      · skip
                        rw [if_neg hc455] at hvd
                        show Steps p.tables e below (T7.setTop (mkF m 455 #[.val (.int xb), .val (.int xf), .val (.int xt), .val (.ref ba), .val (.int fv), .val (.int tv), .val (.int (own_res ef tv 5 fv)), .val (.int lv), .val (.int (3 : Int32)), .val (.int q3), .val (.int (2048 : Int32)), .val (.int k2), .val (.int c2)] [(.int (55296 : Int32)), (.int q3)])) tgt
                        refine XS.icmpNo X7.here hx rfl (hb hby at_455) rfl (flt hc455).1 ?_
                        show Steps p.tables e below (T7.setTop (mkF m 458 #[.val (.int xb), .val (.int xf), .val (.int xt), .val (.ref ba), .val (.int fv), .val (.int tv), .val (.int (own_res ef tv 5 fv)), .val (.int lv), .val (.int (3 : Int32)), .val (.int q3), .val (.int (2048 : Int32)), .val (.int k2), .val (.int c2)] [])) tgt
                        refine XS.iload X7.here hx rfl (hb hby at_458) rfl ?_
                        show Steps p.tables e below (T7.setTop (mkF m 460 #[.val (.int xb), .val (.int xf), .val (.int xt), .val (.ref ba), .val (.int fv), .val (.int tv), .val (.int (own_res ef tv 5 fv)), .val (.int lv), .val (.int (3 : Int32)), .val (.int q3), .val (.int (2048 : Int32)), .val (.int k2), .val (.int c2)] [(.int q3)])) tgt
                        refine X7.ldcInt hx hown (mvT hZ (hw _ (List.mem_of_getElem? (i := 9) rfl))) (g := (mkF m 460 #[.val (.int xb), .val (.int xf), .val (.int xt), .val (.ref ba), .val (.int fv), .val (.int tv), .val (.int (own_res ef tv 5 fv)), .val (.int lv), .val (.int (3 : Int32)), .val (.int q3), .val (.int (2048 : Int32)), .val (.int k2), .val (.int c2)] [(.int q3)])) rfl (hb hby at_460) _ ?_
                        by_cases hc462 : (57343 : Int32) < q3
                        · skip
                          rw [if_pos hc462] at hvd
                          show Steps p.tables e below (T7.setTop (mkF m 462 #[.val (.int xb), .val (.int xf), .val (.int xt), .val (.ref ba), .val (.int fv), .val (.int tv), .val (.int (own_res ef tv 5 fv)), .val (.int lv), .val (.int (3 : Int32)), .val (.int q3), .val (.int (2048 : Int32)), .val (.int k2), .val (.int c2)] [(.int (57343 : Int32)), (.int q3)])) tgt
                          refine XS.icmpNo X7.here hx rfl (hb hby at_462) rfl (tlt hc462).2.2.2 ?_
                          show Steps p.tables e below (T7.setTop (mkF m 465 #[.val (.int xb), .val (.int xf), .val (.int xt), .val (.ref ba), .val (.int fv), .val (.int tv), .val (.int (own_res ef tv 5 fv)), .val (.int lv), .val (.int (3 : Int32)), .val (.int q3), .val (.int (2048 : Int32)), .val (.int k2), .val (.int c2)] [])) tgt
                          refine XS.iconst X7.here hx rfl (hb hby at_465) ?_
                          show Steps p.tables e below (T7.setTop (mkF m 466 #[.val (.int xb), .val (.int xf), .val (.int xt), .val (.ref ba), .val (.int fv), .val (.int tv), .val (.int (own_res ef tv 5 fv)), .val (.int lv), .val (.int (3 : Int32)), .val (.int q3), .val (.int (2048 : Int32)), .val (.int k2), .val (.int c2)] [(.int (1 : Int32))])) tgt
                          refine XS.goto X7.here hx rfl (pc0 := 466) (pc' := 470) rfl (hb hby at_466) (by decide) (by decide) ?_
                          rw [hvd] at k
                          exact k
                        · skip
                          rw [if_neg hc462] at hvd
                          show Steps p.tables e below (T7.setTop (mkF m 462 #[.val (.int xb), .val (.int xf), .val (.int xt), .val (.ref ba), .val (.int fv), .val (.int tv), .val (.int (own_res ef tv 5 fv)), .val (.int lv), .val (.int (3 : Int32)), .val (.int q3), .val (.int (2048 : Int32)), .val (.int k2), .val (.int c2)] [(.int (57343 : Int32)), (.int q3)])) tgt
                          refine XS.icmpYes X7.here hx rfl (pc0 := 462) (pc' := 469) rfl (hb hby at_462) rfl (flt hc462).2.2.2 (by decide) (by decide) ?_
                          show Steps p.tables e below (T7.setTop (mkF m 469 #[.val (.int xb), .val (.int xf), .val (.int xt), .val (.ref ba), .val (.int fv), .val (.int tv), .val (.int (own_res ef tv 5 fv)), .val (.int lv), .val (.int (3 : Int32)), .val (.int q3), .val (.int (2048 : Int32)), .val (.int k2), .val (.int c2)] [])) tgt
                          refine XS.iconst X7.here hx rfl (hb hby at_469) ?_
                          rw [hvd] at k
                          exact k
              refine own_st (V := T7.setTop (mkF m 474 #[.val (.int xb), .val (.int xf), .val (.int xt), .val (.ref ba), .val (.int fv), .val (.int tv), .val (.int (own_res ef tv 5 fv)), .val (.int lv), .val (.int (3 : Int32)), .val (.int q3), .val (.int (2048 : Int32)), .val (.int k2), .val (.int vd)] [(.int vd)])) (fun tgt k => ?_) ?_
              · show Steps p.tables e below (T7.setTop (mkF m 470 #[.val (.int xb), .val (.int xf), .val (.int xt), .val (.ref ba), .val (.int fv), .val (.int tv), .val (.int (own_res ef tv 5 fv)), .val (.int lv), .val (.int (3 : Int32)), .val (.int q3), .val (.int (2048 : Int32)), .val (.int k2), .val (.int c2)] [(.int vd)])) tgt
                refine XS.istore X7.here hx rfl (hb hby at_470) rfl (l' := #[.val (.int xb), .val (.int xf), .val (.int xt), .val (.ref ba), .val (.int fv), .val (.int tv), .val (.int (own_res ef tv 5 fv)), .val (.int lv), .val (.int (3 : Int32)), .val (.int q3), .val (.int (2048 : Int32)), .val (.int k2), .val (.int vd)]) rfl ?_
                show Steps p.tables e below (T7.setTop (mkF m 472 #[.val (.int xb), .val (.int xf), .val (.int xt), .val (.ref ba), .val (.int fv), .val (.int tv), .val (.int (own_res ef tv 5 fv)), .val (.int lv), .val (.int (3 : Int32)), .val (.int q3), .val (.int (2048 : Int32)), .val (.int k2), .val (.int vd)] [])) tgt
                refine XS.iload X7.here hx rfl (hb hby at_472) rfl ?_
                exact k
              by_cases hc474 : vd = (0 : Int32)
              · skip
                refine own_st (V := T7.setTop (mkF m 489 #[.val (.int xb), .val (.int xf), .val (.int xt), .val (.ref ba), .val (.int fv), .val (.int tv), .val (.int (own_res ef tv 5 fv)), .val (.int lv), .val (.int (3 : Int32)), .val (.int q3), .val (.int (2048 : Int32)), .val (.int k2), .val (.int vd)] [(.int (1 : Int32))])) (fun tgt k => ?_) ?_
                · show Steps p.tables e below (T7.setTop (mkF m 474 #[.val (.int xb), .val (.int xf), .val (.int xt), .val (.ref ba), .val (.int fv), .val (.int tv), .val (.int (own_res ef tv 5 fv)), .val (.int lv), .val (.int (3 : Int32)), .val (.int q3), .val (.int (2048 : Int32)), .val (.int k2), .val (.int vd)] [(.int vd)])) tgt
                  refine XS.ifNo X7.here hx rfl (hb hby at_474) rfl ((if0 _ _).trans (teq hc474).2) ?_
                  show Steps p.tables e below (T7.setTop (mkF m 477 #[.val (.int xb), .val (.int xf), .val (.int xt), .val (.ref ba), .val (.int fv), .val (.int tv), .val (.int (own_res ef tv 5 fv)), .val (.int lv), .val (.int (3 : Int32)), .val (.int q3), .val (.int (2048 : Int32)), .val (.int k2), .val (.int vd)] [])) tgt
                  refine XS.iload X7.here hx rfl (hb hby at_477) rfl ?_
                  show Steps p.tables e below (T7.setTop (mkF m 479 #[.val (.int xb), .val (.int xf), .val (.int xt), .val (.ref ba), .val (.int fv), .val (.int tv), .val (.int (own_res ef tv 5 fv)), .val (.int lv), .val (.int (3 : Int32)), .val (.int q3), .val (.int (2048 : Int32)), .val (.int k2), .val (.int vd)] [(.int (own_res ef tv 5 fv))])) tgt
                  refine XS.iload X7.here hx rfl (hb hby at_479) rfl ?_
                  show Steps p.tables e below (T7.setTop (mkF m 481 #[.val (.int xb), .val (.int xf), .val (.int xt), .val (.ref ba), .val (.int fv), .val (.int tv), .val (.int (own_res ef tv 5 fv)), .val (.int lv), .val (.int (3 : Int32)), .val (.int q3), .val (.int (2048 : Int32)), .val (.int k2), .val (.int vd)] [(.int fv), (.int (own_res ef tv 5 fv))])) tgt
                  refine XS.icmpNo X7.here hx rfl (hb hby at_481) rfl (teq (own_bad hlt (by unfold own_S; rw [← hlv, ← hc1, ← hc2]; exact (own_v3 hl0 hr1 hr2 hc127 hc141 hc179 hk1 hk2 hq2 hq3 hvd).1 hc474))).2 ?_
                  show Steps p.tables e below (T7.setTop (mkF m 484 #[.val (.int xb), .val (.int xf), .val (.int xt), .val (.ref ba), .val (.int fv), .val (.int tv), .val (.int (own_res ef tv 5 fv)), .val (.int lv), .val (.int (3 : Int32)), .val (.int q3), .val (.int (2048 : Int32)), .val (.int k2), .val (.int vd)] [])) tgt
                  refine XS.iconst X7.here hx rfl (hb hby at_484) ?_
                  show Steps p.tables e below (T7.setTop (mkF m 485 #[.val (.int xb), .val (.int xf), .val (.int xt), .val (.ref ba), .val (.int fv), .val (.int tv), .val (.int (own_res ef tv 5 fv)), .val (.int lv), .val (.int (3 : Int32)), .val (.int q3), .val (.int (2048 : Int32)), .val (.int k2), .val (.int vd)] [(.int (1 : Int32))])) tgt
                  refine XS.goto X7.here hx rfl (pc0 := 485) (pc' := 489) rfl (hb hby at_485) (by decide) (by decide) ?_
                  exact k
                refine own_retN X7 hx hlk (t := .boolean) (z' := (1 : Int32)) Bd.returns (by simp) rfl (hb hby at_489) ?_ (by decide) (by decide)
                show Q0 Z xb xf xt h0 n0 (some (.int (1 : Int32))) T7.heap _
                rw [K7]
                exact ⟨rfl, N7⟩
              · skip
                refine own_st (V := T7.setTop (mkF m 500 #[.val (.int xb), .val (.int xf), .val (.int xt), .val (.ref ba), .val (.int fv), .val (.int tv), .val (.int (own_res ef tv 5 fv)), .val (.int lv), .val (.int (3 : Int32)), .val (.int q3), .val (.int (2048 : Int32)), .val (.int k2), .val (.int vd)] [(.int tv), (.int (fv + (3 : Int32))), (.ref ba), (.int (own_res ef tv 5 fv))])) (fun tgt k => ?_) ?_
                · show Steps p.tables e below (T7.setTop (mkF m 474 #[.val (.int xb), .val (.int xf), .val (.int xt), .val (.ref ba), .val (.int fv), .val (.int tv), .val (.int (own_res ef tv 5 fv)), .val (.int lv), .val (.int (3 : Int32)), .val (.int q3), .val (.int (2048 : Int32)), .val (.int k2), .val (.int vd)] [(.int vd)])) tgt
                  refine XS.ifYes X7.here hx rfl (pc0 := 474) (pc' := 490) rfl (hb hby at_474) rfl ((if0 _ _).trans (feq hc474).2) (by decide) (by decide) ?_
                  show Steps p.tables e below (T7.setTop (mkF m 490 #[.val (.int xb), .val (.int xf), .val (.int xt), .val (.ref ba), .val (.int fv), .val (.int tv), .val (.int (own_res ef tv 5 fv)), .val (.int lv), .val (.int (3 : Int32)), .val (.int q3), .val (.int (2048 : Int32)), .val (.int k2), .val (.int vd)] [])) tgt
                  refine XS.iload X7.here hx rfl (hb hby at_490) rfl ?_
                  show Steps p.tables e below (T7.setTop (mkF m 492 #[.val (.int xb), .val (.int xf), .val (.int xt), .val (.ref ba), .val (.int fv), .val (.int tv), .val (.int (own_res ef tv 5 fv)), .val (.int lv), .val (.int (3 : Int32)), .val (.int q3), .val (.int (2048 : Int32)), .val (.int k2), .val (.int vd)] [(.int (own_res ef tv 5 fv))])) tgt
                  refine XS.aloadN X7.here hx rfl (hb hby at_492) rfl rfl ?_
                  show Steps p.tables e below (T7.setTop (mkF m 493 #[.val (.int xb), .val (.int xf), .val (.int xt), .val (.ref ba), .val (.int fv), .val (.int tv), .val (.int (own_res ef tv 5 fv)), .val (.int lv), .val (.int (3 : Int32)), .val (.int q3), .val (.int (2048 : Int32)), .val (.int k2), .val (.int vd)] [(.ref ba), (.int (own_res ef tv 5 fv))])) tgt
                  refine XS.iload X7.here hx rfl (hb hby at_493) rfl ?_
                  show Steps p.tables e below (T7.setTop (mkF m 495 #[.val (.int xb), .val (.int xf), .val (.int xt), .val (.ref ba), .val (.int fv), .val (.int tv), .val (.int (own_res ef tv 5 fv)), .val (.int lv), .val (.int (3 : Int32)), .val (.int q3), .val (.int (2048 : Int32)), .val (.int k2), .val (.int vd)] [(.int fv), (.ref ba), (.int (own_res ef tv 5 fv))])) tgt
                  refine XS.iload X7.here hx rfl (hb hby at_495) rfl ?_
                  show Steps p.tables e below (T7.setTop (mkF m 497 #[.val (.int xb), .val (.int xf), .val (.int xt), .val (.ref ba), .val (.int fv), .val (.int tv), .val (.int (own_res ef tv 5 fv)), .val (.int lv), .val (.int (3 : Int32)), .val (.int q3), .val (.int (2048 : Int32)), .val (.int k2), .val (.int vd)] [(.int (3 : Int32)), (.int fv), (.ref ba), (.int (own_res ef tv 5 fv))])) tgt
                  refine XS.iadd X7.here hx rfl (hb hby at_497) rfl ?_
                  show Steps p.tables e below (T7.setTop (mkF m 498 #[.val (.int xb), .val (.int xf), .val (.int xt), .val (.ref ba), .val (.int fv), .val (.int tv), .val (.int (own_res ef tv 5 fv)), .val (.int lv), .val (.int (3 : Int32)), .val (.int q3), .val (.int (2048 : Int32)), .val (.int k2), .val (.int vd)] [(.int (fv + (3 : Int32))), (.ref ba), (.int (own_res ef tv 5 fv))])) tgt
                  refine XS.iload X7.here hx rfl (hb hby at_498) rfl ?_
                  exact k
                obtain ⟨v19, _, ⟨T19, L19, k19, n19⟩, -, Xc19, ⟨Lc19, hQ19, l19, y19, z19⟩, st19⟩ := Jvm.LawKit.callS X7 hx (y := (⟨"com/example/vestwright/vestwright/input/Utf8", "firstNotUtf8", "([BII)I"⟩ : MethodName)) hown (mvT hZ (hw _ (List.mem_of_getElem? (i := 2) rfl))) (mvT hZ (hw _ (List.mem_of_getElem? (i := 3) rfl))) (mvT hZ (hw _ (List.mem_of_getElem? (i := 4) rfl))) (mvT hZ (hw _ (List.mem_of_getElem? (i := 5) rfl))) (by decide) (backOf (W := 1) (rm1 l Z a0 hw [] ba (fv + (3 : Int32)) tv ef 4 h5 n0 Zs5 Ag_ba_6 (by rw [a3]; omega) (by rw [a3]; omega) ht0.2 (by rw [a3]; omega)) hZ (hw _ (List.mem_of_getElem? (i := 5) rfl)) (hw _ (List.mem_of_getElem? (i := 4) rfl)) (by decide) (by decide)) (g := (mkF m 500 #[.val (.int xb), .val (.int xf), .val (.int xt), .val (.ref ba), .val (.int fv), .val (.int tv), .val (.int (own_res ef tv 5 fv)), .val (.int lv), .val (.int (3 : Int32)), .val (.int q3), .val (.int (2048 : Int32)), .val (.int k2), .val (.int vd)] [(.int tv), (.int (fv + (3 : Int32))), (.ref ba), (.int (own_res ef tv 5 fv))])) rfl (by rw [hml]; rfl) (argsL := [(.ref ba), (.int (fv + (3 : Int32))), (.int tv)]) (rest := [(.int (own_res ef tv 5 fv))]) (lenOf pd_0_0 rfl) rfl (by show 2 * 0 + _ ≤ _; exact Nat.le_of_eq rfl) (hb hby at_500) (fun _ _ => ⟨rfl, K7, (by decide : 1 + 0 ≤ _), (by decide : 4 + 0 ≤ _)⟩)
                dsimp only [Pt.U, Pt.locs, Pt.cells, Pt.slots] at Xc19 l19 y19 z19 st19 hQ19
                have X19 := own_cast Xc19 l19 y19 z19
                obtain ⟨ev19, N19q, K19⟩ := hQ19
                rw [ev19] at st19
                have N19 := Fr.app N7 N19q
                refine own_st st19 ?_
                show own_Go p e below _ (T19.setTop (mkF m 503 #[.val (.int xb), .val (.int xf), .val (.int xt), .val (.ref ba), .val (.int fv), .val (.int tv), .val (.int (own_res ef tv 5 fv)), .val (.int lv), .val (.int (3 : Int32)), .val (.int q3), .val (.int (2048 : Int32)), .val (.int k2), .val (.int vd)] [(.int (own_res ef tv 4 (fv + (3 : Int32)))), (.int (own_res ef tv 5 fv))]))
                refine own_st (V := T19.setTop (mkF m 511 #[.val (.int xb), .val (.int xf), .val (.int xt), .val (.ref ba), .val (.int fv), .val (.int tv), .val (.int (own_res ef tv 5 fv)), .val (.int lv), .val (.int (3 : Int32)), .val (.int q3), .val (.int (2048 : Int32)), .val (.int k2), .val (.int vd)] [(.int (1 : Int32))])) (fun tgt k => ?_) ?_
                · show Steps p.tables e below (T19.setTop (mkF m 503 #[.val (.int xb), .val (.int xf), .val (.int xt), .val (.ref ba), .val (.int fv), .val (.int tv), .val (.int (own_res ef tv 5 fv)), .val (.int lv), .val (.int (3 : Int32)), .val (.int q3), .val (.int (2048 : Int32)), .val (.int k2), .val (.int vd)] [(.int (own_res ef tv 4 (fv + (3 : Int32)))), (.int (own_res ef tv 5 fv))])) tgt
                  refine XS.icmpNo X19.here hx rfl (hb hby at_503) rfl (teq (own_good hlt (by unfold own_S; rw [← hlv, ← hc1, ← hc2]; exact (own_v3 hl0 hr1 hr2 hc127 hc141 hc179 hk1 hk2 hq2 hq3 hvd).2 hc474) (by decide))).2 ?_
                  show Steps p.tables e below (T19.setTop (mkF m 506 #[.val (.int xb), .val (.int xf), .val (.int xt), .val (.ref ba), .val (.int fv), .val (.int tv), .val (.int (own_res ef tv 5 fv)), .val (.int lv), .val (.int (3 : Int32)), .val (.int q3), .val (.int (2048 : Int32)), .val (.int k2), .val (.int vd)] [])) tgt
                  refine XS.iconst X19.here hx rfl (hb hby at_506) ?_
                  show Steps p.tables e below (T19.setTop (mkF m 507 #[.val (.int xb), .val (.int xf), .val (.int xt), .val (.ref ba), .val (.int fv), .val (.int tv), .val (.int (own_res ef tv 5 fv)), .val (.int lv), .val (.int (3 : Int32)), .val (.int q3), .val (.int (2048 : Int32)), .val (.int k2), .val (.int vd)] [(.int (1 : Int32))])) tgt
                  refine XS.goto X19.here hx rfl (pc0 := 507) (pc' := 511) rfl (hb hby at_507) (by decide) (by decide) ?_
                  exact k
                refine own_retN X19 hx hlk (t := .boolean) (z' := (1 : Int32)) Bd.returns (by simp) rfl (hb hby at_511) ?_ (by decide) (by decide)
                show Q0 Z xb xf xt h0 n0 (some (.int (1 : Int32))) T19.heap _
                rw [K19]
                exact ⟨rfl, N19⟩
          · skip
            refine own_st (V := T7.setTop (mkF m 155 #[.val (.int xb), .val (.int xf), .val (.int xt), .val (.ref ba), .val (.int fv), .val (.int tv), .val (.int (own_res ef tv 5 fv)), .val (.int lv), .unset, .unset, .unset, .unset, .unset] [(.int (248 : Int32)), (.int lv)])) (fun tgt k => ?_) ?_
            · show Steps p.tables e below (T7.setTop (mkF m 141 #[.val (.int xb), .val (.int xf), .val (.int xt), .val (.ref ba), .val (.int fv), .val (.int tv), .val (.int (own_res ef tv 5 fv)), .val (.int lv), .unset, .unset, .unset, .unset, .unset] [(.int (240 : Int32)), (.int lv)])) tgt
              refine XS.icmpYes X7.here hx rfl (pc0 := 141) (pc' := 150) rfl (hb hby at_141) rfl (flt hc141).2.1 (by decide) (by decide) ?_
              show Steps p.tables e below (T7.setTop (mkF m 150 #[.val (.int xb), .val (.int xf), .val (.int xt), .val (.ref ba), .val (.int fv), .val (.int tv), .val (.int (own_res ef tv 5 fv)), .val (.int lv), .unset, .unset, .unset, .unset, .unset] [])) tgt
              refine XS.iload X7.here hx rfl (hb hby at_150) rfl ?_
              show Steps p.tables e below (T7.setTop (mkF m 152 #[.val (.int xb), .val (.int xf), .val (.int xt), .val (.ref ba), .val (.int fv), .val (.int tv), .val (.int (own_res ef tv 5 fv)), .val (.int lv), .unset, .unset, .unset, .unset, .unset] [(.int lv)])) tgt
              refine XS.sipush X7.here hx rfl (hb hby at_152) ?_
              exact k
            by_cases hc155 : lv < (248 : Int32)
            · skip
              refine own_st (V := T7.setTop (mkF m 179 #[.val (.int xb), .val (.int xf), .val (.int xt), .val (.ref ba), .val (.int fv), .val (.int tv), .val (.int (own_res ef tv 5 fv)), .val (.int lv), .val (.int (4 : Int32)), .unset, .unset, .unset, .unset] [(.int tv), (.int (fv + (4 : Int32)))])) (fun tgt k => ?_) ?_
              · show Steps p.tables e below (T7.setTop (mkF m 155 #[.val (.int xb), .val (.int xf), .val (.int xt), .val (.ref ba), .val (.int fv), .val (.int tv), .val (.int (own_res ef tv 5 fv)), .val (.int lv), .unset, .unset, .unset, .unset, .unset] [(.int (248 : Int32)), (.int lv)])) tgt
                refine XS.icmpNo X7.here hx rfl (hb hby at_155) rfl (tlt hc155).2.1 ?_
                show Steps p.tables e below (T7.setTop (mkF m 158 #[.val (.int xb), .val (.int xf), .val (.int xt), .val (.ref ba), .val (.int fv), .val (.int tv), .val (.int (own_res ef tv 5 fv)), .val (.int lv), .unset, .unset, .unset, .unset, .unset] [])) tgt
                refine XS.iconst X7.here hx rfl (hb hby at_158) ?_
                show Steps p.tables e below (T7.setTop (mkF m 159 #[.val (.int xb), .val (.int xf), .val (.int xt), .val (.ref ba), .val (.int fv), .val (.int tv), .val (.int (own_res ef tv 5 fv)), .val (.int lv), .unset, .unset, .unset, .unset, .unset] [(.int (4 : Int32))])) tgt
                refine XS.istore X7.here hx rfl (hb hby at_159) rfl (l' := #[.val (.int xb), .val (.int xf), .val (.int xt), .val (.ref ba), .val (.int fv), .val (.int tv), .val (.int (own_res ef tv 5 fv)), .val (.int lv), .val (.int (4 : Int32)), .unset, .unset, .unset, .unset]) rfl ?_
                show Steps p.tables e below (T7.setTop (mkF m 161 #[.val (.int xb), .val (.int xf), .val (.int xt), .val (.ref ba), .val (.int fv), .val (.int tv), .val (.int (own_res ef tv 5 fv)), .val (.int lv), .val (.int (4 : Int32)), .unset, .unset, .unset, .unset] [])) tgt
                refine XS.goto X7.here hx rfl (pc0 := 161) (pc' := 167) rfl (hb hby at_161) (by decide) (by decide) ?_
                show Steps p.tables e below (T7.setTop (mkF m 167 #[.val (.int xb), .val (.int xf), .val (.int xt), .val (.ref ba), .val (.int fv), .val (.int tv), .val (.int (own_res ef tv 5 fv)), .val (.int lv), .val (.int (4 : Int32)), .unset, .unset, .unset, .unset] [])) tgt
                refine XS.iload X7.here hx rfl (hb hby at_167) rfl ?_
                show Steps p.tables e below (T7.setTop (mkF m 169 #[.val (.int xb), .val (.int xf), .val (.int xt), .val (.ref ba), .val (.int fv), .val (.int tv), .val (.int (own_res ef tv 5 fv)), .val (.int lv), .val (.int (4 : Int32)), .unset, .unset, .unset, .unset] [(.int (4 : Int32))])) tgt
                refine XS.ifNo X7.here hx rfl (hb hby at_169) rfl ((if0 _ _).trans (feq (by decide : ¬ ((4 : Int32) = (0 : Int32)))).1) ?_
                show Steps p.tables e below (T7.setTop (mkF m 172 #[.val (.int xb), .val (.int xf), .val (.int xt), .val (.ref ba), .val (.int fv), .val (.int tv), .val (.int (own_res ef tv 5 fv)), .val (.int lv), .val (.int (4 : Int32)), .unset, .unset, .unset, .unset] [])) tgt
                refine XS.iload X7.here hx rfl (hb hby at_172) rfl ?_
                show Steps p.tables e below (T7.setTop (mkF m 174 #[.val (.int xb), .val (.int xf), .val (.int xt), .val (.ref ba), .val (.int fv), .val (.int tv), .val (.int (own_res ef tv 5 fv)), .val (.int lv), .val (.int (4 : Int32)), .unset, .unset, .unset, .unset] [(.int fv)])) tgt
                refine XS.iload X7.here hx rfl (hb hby at_174) rfl ?_
                show Steps p.tables e below (T7.setTop (mkF m 176 #[.val (.int xb), .val (.int xf), .val (.int xt), .val (.ref ba), .val (.int fv), .val (.int tv), .val (.int (own_res ef tv 5 fv)), .val (.int lv), .val (.int (4 : Int32)), .unset, .unset, .unset, .unset] [(.int (4 : Int32)), (.int fv)])) tgt
                refine XS.iadd X7.here hx rfl (hb hby at_176) rfl ?_
                show Steps p.tables e below (T7.setTop (mkF m 177 #[.val (.int xb), .val (.int xf), .val (.int xt), .val (.ref ba), .val (.int fv), .val (.int tv), .val (.int (own_res ef tv 5 fv)), .val (.int lv), .val (.int (4 : Int32)), .unset, .unset, .unset, .unset] [(.int (fv + (4 : Int32)))])) tgt
                refine XS.iload X7.here hx rfl (hb hby at_177) rfl ?_
                exact k
              by_cases hc179 : tv < (fv + (4 : Int32))
              · skip
                refine own_st (V := T7.setTop (mkF m 194 #[.val (.int xb), .val (.int xf), .val (.int xt), .val (.ref ba), .val (.int fv), .val (.int tv), .val (.int (own_res ef tv 5 fv)), .val (.int lv), .val (.int (4 : Int32)), .unset, .unset, .unset, .unset] [(.int (1 : Int32))])) (fun tgt k => ?_) ?_
                · show Steps p.tables e below (T7.setTop (mkF m 179 #[.val (.int xb), .val (.int xf), .val (.int xt), .val (.ref ba), .val (.int fv), .val (.int tv), .val (.int (own_res ef tv 5 fv)), .val (.int lv), .val (.int (4 : Int32)), .unset, .unset, .unset, .unset] [(.int tv), (.int (fv + (4 : Int32)))])) tgt
                  refine XS.icmpNo X7.here hx rfl (hb hby at_179) rfl (tlt hc179).2.2.2 ?_
                  show Steps p.tables e below (T7.setTop (mkF m 182 #[.val (.int xb), .val (.int xf), .val (.int xt), .val (.ref ba), .val (.int fv), .val (.int tv), .val (.int (own_res ef tv 5 fv)), .val (.int lv), .val (.int (4 : Int32)), .unset, .unset, .unset, .unset] [])) tgt
                  refine XS.iload X7.here hx rfl (hb hby at_182) rfl ?_
                  show Steps p.tables e below (T7.setTop (mkF m 184 #[.val (.int xb), .val (.int xf), .val (.int xt), .val (.ref ba), .val (.int fv), .val (.int tv), .val (.int (own_res ef tv 5 fv)), .val (.int lv), .val (.int (4 : Int32)), .unset, .unset, .unset, .unset] [(.int (own_res ef tv 5 fv))])) tgt
                  refine XS.iload X7.here hx rfl (hb hby at_184) rfl ?_
                  show Steps p.tables e below (T7.setTop (mkF m 186 #[.val (.int xb), .val (.int xf), .val (.int xt), .val (.ref ba), .val (.int fv), .val (.int tv), .val (.int (own_res ef tv 5 fv)), .val (.int lv), .val (.int (4 : Int32)), .unset, .unset, .unset, .unset] [(.int fv), (.int (own_res ef tv 5 fv))])) tgt
                  refine XS.icmpNo X7.here hx rfl (hb hby at_186) rfl (teq (own_bad hlt (by unfold own_S; rw [← hlv]; exact own_u4 hc141 hc155 hc179))).2 ?_
                  show Steps p.tables e below (T7.setTop (mkF m 189 #[.val (.int xb), .val (.int xf), .val (.int xt), .val (.ref ba), .val (.int fv), .val (.int tv), .val (.int (own_res ef tv 5 fv)), .val (.int lv), .val (.int (4 : Int32)), .unset, .unset, .unset, .unset] [])) tgt
                  refine XS.iconst X7.here hx rfl (hb hby at_189) ?_
                  show Steps p.tables e below (T7.setTop (mkF m 190 #[.val (.int xb), .val (.int xf), .val (.int xt), .val (.ref ba), .val (.int fv), .val (.int tv), .val (.int (own_res ef tv 5 fv)), .val (.int lv), .val (.int (4 : Int32)), .unset, .unset, .unset, .unset] [(.int (1 : Int32))])) tgt
                  refine XS.goto X7.here hx rfl (pc0 := 190) (pc' := 194) rfl (hb hby at_190) (by decide) (by decide) ?_
                  exact k
                refine own_retN X7 hx hlk (t := .boolean) (z' := (1 : Int32)) Bd.returns (by simp) rfl (hb hby at_194) ?_ (by decide) (by decide)
                show Q0 Z xb xf xt h0 n0 (some (.int (1 : Int32))) T7.heap _
                rw [K7]
                exact ⟨rfl, N7⟩
              · skip
                refine own_st (V := T7.setTop (mkF m 195 #[.val (.int xb), .val (.int xf), .val (.int xt), .val (.ref ba), .val (.int fv), .val (.int tv), .val (.int (own_res ef tv 5 fv)), .val (.int lv), .val (.int (4 : Int32)), .unset, .unset, .unset, .unset] [])) (fun tgt k => ?_) ?_
                · show Steps p.tables e below (T7.setTop (mkF m 179 #[.val (.int xb), .val (.int xf), .val (.int xt), .val (.ref ba), .val (.int fv), .val (.int tv), .val (.int (own_res ef tv 5 fv)), .val (.int lv), .val (.int (4 : Int32)), .unset, .unset, .unset, .unset] [(.int tv), (.int (fv + (4 : Int32)))])) tgt
                  refine XS.icmpYes X7.here hx rfl (pc0 := 179) (pc' := 195) rfl (hb hby at_179) rfl (flt hc179).2.2.2 (by decide) (by decide) ?_
                  exact k
                have hfit : fv.toInt + 4 ≤ tv.toInt := by rw [own_ilt, a4] at hc179; omega
                refine own_st (V := T7.setTop (mkF m 285 #[.val (.int xb), .val (.int xf), .val (.int xt), .val (.ref ba), .val (.int fv), .val (.int tv), .val (.int (own_res ef tv 5 fv)), .val (.int lv), .val (.int (4 : Int32)), .val (.int (lv &&& (7 : Int32))), .val (.int (65536 : Int32)), .val (.int (1 : Int32)), .val (.int ((ef (fv.toInt.toNat + 1)) &&& (255 : Int32)))] [])) (fun tgt k => ?_) ?_
                · show Steps p.tables e below (T7.setTop (mkF m 195 #[.val (.int xb), .val (.int xf), .val (.int xt), .val (.ref ba), .val (.int fv), .val (.int tv), .val (.int (own_res ef tv 5 fv)), .val (.int lv), .val (.int (4 : Int32)), .unset, .unset, .unset, .unset] [])) tgt
                  refine XS.iload X7.here hx rfl (hb hby at_195) rfl ?_
                  show Steps p.tables e below (T7.setTop (mkF m 197 #[.val (.int xb), .val (.int xf), .val (.int xt), .val (.ref ba), .val (.int fv), .val (.int tv), .val (.int (own_res ef tv 5 fv)), .val (.int lv), .val (.int (4 : Int32)), .unset, .unset, .unset, .unset] [(.int (4 : Int32))])) tgt
                  refine XS.iconst X7.here hx rfl (hb hby at_197) ?_
                  show Steps p.tables e below (T7.setTop (mkF m 198 #[.val (.int xb), .val (.int xf), .val (.int xt), .val (.ref ba), .val (.int fv), .val (.int tv), .val (.int (own_res ef tv 5 fv)), .val (.int lv), .val (.int (4 : Int32)), .unset, .unset, .unset, .unset] [(.int (1 : Int32)), (.int (4 : Int32))])) tgt
                  refine XS.icmpYes X7.here hx rfl (pc0 := 198) (pc' := 211) rfl (hb hby at_198) rfl (feq (by decide : ¬ ((4 : Int32) = (1 : Int32)))).2 (by decide) (by decide) ?_
                  show Steps p.tables e below (T7.setTop (mkF m 211 #[.val (.int xb), .val (.int xf), .val (.int xt), .val (.ref ba), .val (.int fv), .val (.int tv), .val (.int (own_res ef tv 5 fv)), .val (.int lv), .val (.int (4 : Int32)), .unset, .unset, .unset, .unset] [])) tgt
                  refine XS.iload X7.here hx rfl (hb hby at_211) rfl ?_
                  show Steps p.tables e below (T7.setTop (mkF m 213 #[.val (.int xb), .val (.int xf), .val (.int xt), .val (.ref ba), .val (.int fv), .val (.int tv), .val (.int (own_res ef tv 5 fv)), .val (.int lv), .val (.int (4 : Int32)), .unset, .unset, .unset, .unset] [(.int (4 : Int32))])) tgt
                  refine XS.iconst X7.here hx rfl (hb hby at_213) ?_
                  show Steps p.tables e below (T7.setTop (mkF m 214 #[.val (.int xb), .val (.int xf), .val (.int xt), .val (.ref ba), .val (.int fv), .val (.int tv), .val (.int (own_res ef tv 5 fv)), .val (.int lv), .val (.int (4 : Int32)), .unset, .unset, .unset, .unset] [(.int (2 : Int32)), (.int (4 : Int32))])) tgt
                  refine XS.icmpYes X7.here hx rfl (pc0 := 214) (pc' := 232) rfl (hb hby at_214) rfl (feq (by decide : ¬ ((4 : Int32) = (2 : Int32)))).2 (by decide) (by decide) ?_
                  show Steps p.tables e below (T7.setTop (mkF m 232 #[.val (.int xb), .val (.int xf), .val (.int xt), .val (.ref ba), .val (.int fv), .val (.int tv), .val (.int (own_res ef tv 5 fv)), .val (.int lv), .val (.int (4 : Int32)), .unset, .unset, .unset, .unset] [])) tgt
                  refine XS.iload X7.here hx rfl (hb hby at_232) rfl ?_
                  show Steps p.tables e below (T7.setTop (mkF m 234 #[.val (.int xb), .val (.int xf), .val (.int xt), .val (.ref ba), .val (.int fv), .val (.int tv), .val (.int (own_res ef tv 5 fv)), .val (.int lv), .val (.int (4 : Int32)), .unset, .unset, .unset, .unset] [(.int (4 : Int32))])) tgt
                  refine XS.iconst X7.here hx rfl (hb hby at_234) ?_
                  show Steps p.tables e below (T7.setTop (mkF m 235 #[.val (.int xb), .val (.int xf), .val (.int xt), .val (.ref ba), .val (.int fv), .val (.int tv), .val (.int (own_res ef tv 5 fv)), .val (.int lv), .val (.int (4 : Int32)), .unset, .unset, .unset, .unset] [(.int (3 : Int32)), (.int (4 : Int32))])) tgt
                  refine XS.icmpYes X7.here hx rfl (pc0 := 235) (pc' := 253) rfl (hb hby at_235) rfl (feq (by decide : ¬ ((4 : Int32) = (3 : Int32)))).2 (by decide) (by decide) ?_
                  show Steps p.tables e below (T7.setTop (mkF m 253 #[.val (.int xb), .val (.int xf), .val (.int xt), .val (.ref ba), .val (.int fv), .val (.int tv), .val (.int (own_res ef tv 5 fv)), .val (.int lv), .val (.int (4 : Int32)), .unset, .unset, .unset, .unset] [])) tgt
                  refine XS.iload X7.here hx rfl (hb hby at_253) rfl ?_
                  show Steps p.tables e below (T7.setTop (mkF m 255 #[.val (.int xb), .val (.int xf), .val (.int xt), .val (.ref ba), .val (.int fv), .val (.int tv), .val (.int (own_res ef tv 5 fv)), .val (.int lv), .val (.int (4 : Int32)), .unset, .unset, .unset, .unset] [(.int lv)])) tgt
                  refine XS.bipush X7.here hx rfl (hb hby at_255) ?_
                  show Steps p.tables e below (T7.setTop (mkF m 257 #[.val (.int xb), .val (.int xf), .val (.int xt), .val (.ref ba), .val (.int fv), .val (.int tv), .val (.int (own_res ef tv 5 fv)), .val (.int lv), .val (.int (4 : Int32)), .unset, .unset, .unset, .unset] [(.int (7 : Int32)), (.int lv)])) tgt
                  refine XS.iand X7.here hx rfl (hb hby at_257) rfl ?_
                  show Steps p.tables e below (T7.setTop (mkF m 258 #[.val (.int xb), .val (.int xf), .val (.int xt), .val (.ref ba), .val (.int fv), .val (.int tv), .val (.int (own_res ef tv 5 fv)), .val (.int lv), .val (.int (4 : Int32)), .unset, .unset, .unset, .unset] [(.int (lv &&& (7 : Int32)))])) tgt
                  refine XS.istore X7.here hx rfl (hb hby at_258) rfl (l' := #[.val (.int xb), .val (.int xf), .val (.int xt), .val (.ref ba), .val (.int fv), .val (.int tv), .val (.int (own_res ef tv 5 fv)), .val (.int lv), .val (.int (4 : Int32)), .val (.int (lv &&& (7 : Int32))), .unset, .unset, .unset]) rfl ?_
                  show Steps p.tables e below (T7.setTop (mkF m 260 #[.val (.int xb), .val (.int xf), .val (.int xt), .val (.ref ba), .val (.int fv), .val (.int tv), .val (.int (own_res ef tv 5 fv)), .val (.int lv), .val (.int (4 : Int32)), .val (.int (lv &&& (7 : Int32))), .unset, .unset, .unset] [])) tgt
                  refine X7.ldcInt hx hown (mvT hZ (hw _ (List.mem_of_getElem? (i := 8) rfl))) (g := (mkF m 260 #[.val (.int xb), .val (.int xf), .val (.int xt), .val (.ref ba), .val (.int fv), .val (.int tv), .val (.int (own_res ef tv 5 fv)), .val (.int lv), .val (.int (4 : Int32)), .val (.int (lv &&& (7 : Int32))), .unset, .unset, .unset] [])) rfl (hb hby at_260) _ ?_
                  show Steps p.tables e below (T7.setTop (mkF m 262 #[.val (.int xb), .val (.int xf), .val (.int xt), .val (.ref ba), .val (.int fv), .val (.int tv), .val (.int (own_res ef tv 5 fv)), .val (.int lv), .val (.int (4 : Int32)), .val (.int (lv &&& (7 : Int32))), .unset, .unset, .unset] [(.int (65536 : Int32))])) tgt
                  refine XS.istore X7.here hx rfl (hb hby at_262) rfl (l' := #[.val (.int xb), .val (.int xf), .val (.int xt), .val (.ref ba), .val (.int fv), .val (.int tv), .val (.int (own_res ef tv 5 fv)), .val (.int lv), .val (.int (4 : Int32)), .val (.int (lv &&& (7 : Int32))), .val (.int (65536 : Int32)), .unset, .unset]) rfl ?_
                  show Steps p.tables e below (T7.setTop (mkF m 264 #[.val (.int xb), .val (.int xf), .val (.int xt), .val (.ref ba), .val (.int fv), .val (.int tv), .val (.int (own_res ef tv 5 fv)), .val (.int lv), .val (.int (4 : Int32)), .val (.int (lv &&& (7 : Int32))), .val (.int (65536 : Int32)), .unset, .unset] [])) tgt
                  refine XS.iconst X7.here hx rfl (hb hby at_264) ?_
                  show Steps p.tables e below (T7.setTop (mkF m 265 #[.val (.int xb), .val (.int xf), .val (.int xt), .val (.ref ba), .val (.int fv), .val (.int tv), .val (.int (own_res ef tv 5 fv)), .val (.int lv), .val (.int (4 : Int32)), .val (.int (lv &&& (7 : Int32))), .val (.int (65536 : Int32)), .unset, .unset] [(.int (1 : Int32))])) tgt
                  refine XS.istore X7.here hx rfl (hb hby at_265) rfl (l' := #[.val (.int xb), .val (.int xf), .val (.int xt), .val (.ref ba), .val (.int fv), .val (.int tv), .val (.int (own_res ef tv 5 fv)), .val (.int lv), .val (.int (4 : Int32)), .val (.int (lv &&& (7 : Int32))), .val (.int (65536 : Int32)), .val (.int (1 : Int32)), .unset]) rfl ?_
                  show Steps p.tables e below (T7.setTop (mkF m 267 #[.val (.int xb), .val (.int xf), .val (.int xt), .val (.ref ba), .val (.int fv), .val (.int tv), .val (.int (own_res ef tv 5 fv)), .val (.int lv), .val (.int (4 : Int32)), .val (.int (lv &&& (7 : Int32))), .val (.int (65536 : Int32)), .val (.int (1 : Int32)), .unset] [])) tgt
                  refine XS.iload X7.here hx rfl (hb hby at_267) rfl ?_
                  show Steps p.tables e below (T7.setTop (mkF m 269 #[.val (.int xb), .val (.int xf), .val (.int xt), .val (.ref ba), .val (.int fv), .val (.int tv), .val (.int (own_res ef tv 5 fv)), .val (.int lv), .val (.int (4 : Int32)), .val (.int (lv &&& (7 : Int32))), .val (.int (65536 : Int32)), .val (.int (1 : Int32)), .unset] [(.int (4 : Int32))])) tgt
                  refine XS.iconst X7.here hx rfl (hb hby at_269) ?_
                  show Steps p.tables e below (T7.setTop (mkF m 270 #[.val (.int xb), .val (.int xf), .val (.int xt), .val (.ref ba), .val (.int fv), .val (.int tv), .val (.int (own_res ef tv 5 fv)), .val (.int lv), .val (.int (4 : Int32)), .val (.int (lv &&& (7 : Int32))), .val (.int (65536 : Int32)), .val (.int (1 : Int32)), .unset] [(.int (2 : Int32)), (.int (4 : Int32))])) tgt
                  refine XS.icmpNo X7.here hx rfl (hb hby at_270) rfl (flt (by decide : ¬ ((4 : Int32) < (2 : Int32)))).1 ?_
                  show Steps p.tables e below (T7.setTop (mkF m 273 #[.val (.int xb), .val (.int xf), .val (.int xt), .val (.ref ba), .val (.int fv), .val (.int tv), .val (.int (own_res ef tv 5 fv)), .val (.int lv), .val (.int (4 : Int32)), .val (.int (lv &&& (7 : Int32))), .val (.int (65536 : Int32)), .val (.int (1 : Int32)), .unset] [])) tgt
                  refine XS.aloadN X7.here hx rfl (hb hby at_273) rfl rfl ?_
                  show Steps p.tables e below (T7.setTop (mkF m 274 #[.val (.int xb), .val (.int xf), .val (.int xt), .val (.ref ba), .val (.int fv), .val (.int tv), .val (.int (own_res ef tv 5 fv)), .val (.int lv), .val (.int (4 : Int32)), .val (.int (lv &&& (7 : Int32))), .val (.int (65536 : Int32)), .val (.int (1 : Int32)), .unset] [(.ref ba)])) tgt
                  refine XS.iload X7.here hx rfl (hb hby at_274) rfl ?_
                  show Steps p.tables e below (T7.setTop (mkF m 276 #[.val (.int xb), .val (.int xf), .val (.int xt), .val (.ref ba), .val (.int fv), .val (.int tv), .val (.int (own_res ef tv 5 fv)), .val (.int lv), .val (.int (4 : Int32)), .val (.int (lv &&& (7 : Int32))), .val (.int (65536 : Int32)), .val (.int (1 : Int32)), .unset] [(.int fv), (.ref ba)])) tgt
                  refine XS.iconst X7.here hx rfl (hb hby at_276) ?_
                  show Steps p.tables e below (T7.setTop (mkF m 277 #[.val (.int xb), .val (.int xf), .val (.int xt), .val (.ref ba), .val (.int fv), .val (.int tv), .val (.int (own_res ef tv 5 fv)), .val (.int lv), .val (.int (4 : Int32)), .val (.int (lv &&& (7 : Int32))), .val (.int (65536 : Int32)), .val (.int (1 : Int32)), .unset] [(.int (1 : Int32)), (.int fv), (.ref ba)])) tgt
                  refine XS.iadd X7.here hx rfl (hb hby at_277) rfl ?_
                  show Steps p.tables e below (T7.setTop (mkF m 278 #[.val (.int xb), .val (.int xf), .val (.int xt), .val (.ref ba), .val (.int fv), .val (.int tv), .val (.int (own_res ef tv 5 fv)), .val (.int lv), .val (.int (4 : Int32)), .val (.int (lv &&& (7 : Int32))), .val (.int (65536 : Int32)), .val (.int (1 : Int32)), .unset] [(.int (fv + (1 : Int32))), (.ref ba)])) tgt
                  refine own_baload X7 hx hZ K7 Ag_ba_6 (j := (fv + (1 : Int32))) (k := (fv.toInt.toNat + 1)) a1 (by omega) (g := (mkF m 278 #[.val (.int xb), .val (.int xf), .val (.int xt), .val (.ref ba), .val (.int fv), .val (.int tv), .val (.int (own_res ef tv 5 fv)), .val (.int lv), .val (.int (4 : Int32)), .val (.int (lv &&& (7 : Int32))), .val (.int (65536 : Int32)), .val (.int (1 : Int32)), .unset] [(.int (fv + (1 : Int32))), (.ref ba)])) rfl rfl (hb hby at_278) ?_
                  show Steps p.tables e below (T7.setTop (mkF m 279 #[.val (.int xb), .val (.int xf), .val (.int xt), .val (.ref ba), .val (.int fv), .val (.int tv), .val (.int (own_res ef tv 5 fv)), .val (.int lv), .val (.int (4 : Int32)), .val (.int (lv &&& (7 : Int32))), .val (.int (65536 : Int32)), .val (.int (1 : Int32)), .unset] [(.int (ef (fv.toInt.toNat + 1)))])) tgt
                  refine XS.sipush X7.here hx rfl (hb hby at_279) ?_
                  show Steps p.tables e below (T7.setTop (mkF m 282 #[.val (.int xb), .val (.int xf), .val (.int xt), .val (.ref ba), .val (.int fv), .val (.int tv), .val (.int (own_res ef tv 5 fv)), .val (.int lv), .val (.int (4 : Int32)), .val (.int (lv &&& (7 : Int32))), .val (.int (65536 : Int32)), .val (.int (1 : Int32)), .unset] [(.int (255 : Int32)), (.int (ef (fv.toInt.toNat + 1)))])) tgt
                  refine XS.iand X7.here hx rfl (hb hby at_282) rfl ?_
                  show Steps p.tables e below (T7.setTop (mkF m 283 #[.val (.int xb), .val (.int xf), .val (.int xt), .val (.ref ba), .val (.int fv), .val (.int tv), .val (.int (own_res ef tv 5 fv)), .val (.int lv), .val (.int (4 : Int32)), .val (.int (lv &&& (7 : Int32))), .val (.int (65536 : Int32)), .val (.int (1 : Int32)), .unset] [(.int ((ef (fv.toInt.toNat + 1)) &&& (255 : Int32)))])) tgt
                  refine XS.istore X7.here hx rfl (hb hby at_283) rfl (l' := #[.val (.int xb), .val (.int xf), .val (.int xt), .val (.ref ba), .val (.int fv), .val (.int tv), .val (.int (own_res ef tv 5 fv)), .val (.int lv), .val (.int (4 : Int32)), .val (.int (lv &&& (7 : Int32))), .val (.int (65536 : Int32)), .val (.int (1 : Int32)), .val (.int ((ef (fv.toInt.toNat + 1)) &&& (255 : Int32)))]) rfl ?_
                  exact k
                obtain ⟨c1, hc1⟩ : ∃ z : Int32, z = ((ef (fv.toInt.toNat + 1)) &&& (255 : Int32)) := ⟨_, rfl⟩
                rw [← hc1]
                have hr1 : 0 ≤ c1.toInt ∧ c1.toInt ≤ 255 := by rw [hc1]; exact own_b255 _
                refine own_st (V := T7.setTop (mkF m 299 #[.val (.int xb), .val (.int xf), .val (.int xt), .val (.ref ba), .val (.int fv), .val (.int tv), .val (.int (own_res ef tv 5 fv)), .val (.int lv), .val (.int (4 : Int32)), .val (.int (lv &&& (7 : Int32))), .val (.int (65536 : Int32)), .val (.int (1 : Int32)), .val (.int c1)] [(.int (128 : Int32)), (.int (c1 &&& (192 : Int32)))])) (fun tgt k => ?_) ?_
                · show Steps p.tables e below (T7.setTop (mkF m 285 #[.val (.int xb), .val (.int xf), .val (.int xt), .val (.ref ba), .val (.int fv), .val (.int tv), .val (.int (own_res ef tv 5 fv)), .val (.int lv), .val (.int (4 : Int32)), .val (.int (lv &&& (7 : Int32))), .val (.int (65536 : Int32)), .val (.int (1 : Int32)), .val (.int c1)] [])) tgt
                  refine XS.iload X7.here hx rfl (hb hby at_285) rfl ?_
                  show Steps p.tables e below (T7.setTop (mkF m 287 #[.val (.int xb), .val (.int xf), .val (.int xt), .val (.ref ba), .val (.int fv), .val (.int tv), .val (.int (own_res ef tv 5 fv)), .val (.int lv), .val (.int (4 : Int32)), .val (.int (lv &&& (7 : Int32))), .val (.int (65536 : Int32)), .val (.int (1 : Int32)), .val (.int c1)] [(.int (1 : Int32))])) tgt
                  refine XS.ifNo X7.here hx rfl (hb hby at_287) rfl ((if0 _ _).trans (feq (by decide : ¬ ((1 : Int32) = (0 : Int32)))).1) ?_
                  show Steps p.tables e below (T7.setTop (mkF m 290 #[.val (.int xb), .val (.int xf), .val (.int xt), .val (.ref ba), .val (.int fv), .val (.int tv), .val (.int (own_res ef tv 5 fv)), .val (.int lv), .val (.int (4 : Int32)), .val (.int (lv &&& (7 : Int32))), .val (.int (65536 : Int32)), .val (.int (1 : Int32)), .val (.int c1)] [])) tgt
                  refine XS.iload X7.here hx rfl (hb hby at_290) rfl ?_
                  show Steps p.tables e below (T7.setTop (mkF m 292 #[.val (.int xb), .val (.int xf), .val (.int xt), .val (.ref ba), .val (.int fv), .val (.int tv), .val (.int (own_res ef tv 5 fv)), .val (.int lv), .val (.int (4 : Int32)), .val (.int (lv &&& (7 : Int32))), .val (.int (65536 : Int32)), .val (.int (1 : Int32)), .val (.int c1)] [(.int c1)])) tgt
                  refine XS.sipush X7.here hx rfl (hb hby at_292) ?_
                  show Steps p.tables e below (T7.setTop (mkF m 295 #[.val (.int xb), .val (.int xf), .val (.int xt), .val (.ref ba), .val (.int fv), .val (.int tv), .val (.int (own_res ef tv 5 fv)), .val (.int lv), .val (.int (4 : Int32)), .val (.int (lv &&& (7 : Int32))), .val (.int (65536 : Int32)), .val (.int (1 : Int32)), .val (.int c1)] [(.int (192 : Int32)), (.int c1)])) tgt
                  refine XS.iand X7.here hx rfl (hb hby at_295) rfl ?_
                  show Steps p.tables e below (T7.setTop (mkF m 296 #[.val (.int xb), .val (.int xf), .val (.int xt), .val (.ref ba), .val (.int fv), .val (.int tv), .val (.int (own_res ef tv 5 fv)), .val (.int lv), .val (.int (4 : Int32)), .val (.int (lv &&& (7 : Int32))), .val (.int (65536 : Int32)), .val (.int (1 : Int32)), .val (.int c1)] [(.int (c1 &&& (192 : Int32)))])) tgt
                  refine XS.sipush X7.here hx rfl (hb hby at_296) ?_
                  exact k
                obtain ⟨k1, hk1⟩ : ∃ z : Int32, z = (if (c1 &&& (192 : Int32)) = (128 : Int32) then (1 : Int32) else (0 : Int32)) := ⟨_, rfl⟩
                refine own_st (V := T7.setTop (mkF m 307 #[.val (.int xb), .val (.int xf), .val (.int xt), .val (.ref ba), .val (.int fv), .val (.int tv), .val (.int (own_res ef tv 5 fv)), .val (.int lv), .val (.int (4 : Int32)), .val (.int (lv &&& (7 : Int32))), .val (.int (65536 : Int32)), .val (.int (1 : Int32)), .val (.int c1)] [(.int k1)])) (fun tgt k => ?_) ?_
                · skip
                  by_cases hc299_2 : (c1 &&& (192 : Int32)) = (128 : Int32)
                  · skip
                    rw [if_pos hc299_2] at hk1
                    show Steps p.tables e below (T7.setTop (mkF m 299 #[.val (.int xb), .val (.int xf), .val (.int xt), .val (.ref ba), .val (.int fv), .val (.int tv), .val (.int (own_res ef tv 5 fv)), .val (.int lv), .val (.int (4 : Int32)), .val (.int (lv &&& (7 : Int32))), .val (.int (65536 : Int32)), .val (.int (1 : Int32)), .val (.int c1)] [(.int (128 : Int32)), (.int (c1 &&& (192 : Int32)))])) tgt
                    refine XS.icmpNo X7.here hx rfl (hb hby at_299) rfl (teq hc299_2).2 ?_
                    show Steps p.tables e below (T7.setTop (mkF m 302 #[.val (.int xb), .val (.int xf), .val (.int xt), .val (.ref ba), .val (.int fv), .val (.int tv), .val (.int (own_res ef tv 5 fv)), .val (.int lv), .val (.int (4 : Int32)), .val (.int (lv &&& (7 : Int32))), .val (.int (65536 : Int32)), .val (.int (1 : Int32)), .val (.int c1)] [])) tgt
                    refine XS.iconst X7.here hx rfl (hb hby at_302) ?_
                    show Steps p.tables e below (T7.setTop (mkF m 303 #[.val (.int xb), .val (.int xf), .val (.int xt), .val (.ref ba), .val (.int fv), .val (.int tv), .val (.int (own_res ef tv 5 fv)), .val (.int lv), .val (.int (4 : Int32)), .val (.int (lv &&& (7 : Int32))), .val (.int (65536 : Int32)), .val (.int (1 : Int32)), .val (.int c1)] [(.int (1 : Int32))])) tgt
                    refine XS.goto X7.here hx rfl (pc0 := 303) (pc' := 307) rfl (hb hby at_303) (by decide) (by decide) ?_
                    rw [hk1] at k
                    exact k
                  · skip
                    rw [if_neg hc299_2] at hk1
                    show Steps p.tables e below (T7.setTop (mkF m 299 #[.val (.int xb), .val (.int xf), .val (.int xt), .val (.ref ba), .val (.int fv), .val (.int tv), .val (.int (own_res ef tv 5 fv)), .val (.int lv), .val (.int (4 : Int32)), .val (.int (lv &&& (7 : Int32))), .val (.int (65536 : Int32)), .val (.int (1 : Int32)), .val (.int c1)] [(.int (128 : Int32)), (.int (c1 &&& (192 : Int32)))])) tgt
                    refine XS.icmpYes X7.here hx rfl (pc0 := 299) (pc' := 306) rfl (hb hby at_299) rfl (feq hc299_2).2 (by decide) (by decide) ?_
                    show Steps p.tables e below (T7.setTop (mkF m 306 #[.val (.int xb), .val (.int xf), .val (.int xt), .val (.ref ba), .val (.int fv), .val (.int tv), .val (.int (own_res ef tv 5 fv)), .val (.int lv), .val (.int (4 : Int32)), .val (.int (lv &&& (7 : Int32))), .val (.int (65536 : Int32)), .val (.int (1 : Int32)), .val (.int c1)] [])) tgt
                    refine XS.iconst X7.here hx rfl (hb hby at_306) ?_
                    rw [hk1] at k
                    exact k
                refine own_st (V := T7.setTop (mkF m 322 #[.val (.int xb), .val (.int xf), .val (.int xt), .val (.ref ba), .val (.int fv), .val (.int tv), .val (.int (own_res ef tv 5 fv)), .val (.int lv), .val (.int (4 : Int32)), .val (.int (((lv &&& (7 : Int32)) <<< ((6 : Int32) &&& 31)) ||| (c1 &&& (63 : Int32)))), .val (.int (65536 : Int32)), .val (.int k1), .val (.int c1)] [])) (fun tgt k => ?_) ?_
                · show Steps p.tables e below (T7.setTop (mkF m 307 #[.val (.int xb), .val (.int xf), .val (.int xt), .val (.ref ba), .val (.int fv), .val (.int tv), .val (.int (own_res ef tv 5 fv)), .val (.int lv), .val (.int (4 : Int32)), .val (.int (lv &&& (7 : Int32))), .val (.int (65536 : Int32)), .val (.int (1 : Int32)), .val (.int c1)] [(.int k1)])) tgt
                  refine XS.istore X7.here hx rfl (hb hby at_307) rfl (l' := #[.val (.int xb), .val (.int xf), .val (.int xt), .val (.ref ba), .val (.int fv), .val (.int tv), .val (.int (own_res ef tv 5 fv)), .val (.int lv), .val (.int (4 : Int32)), .val (.int (lv &&& (7 : Int32))), .val (.int (65536 : Int32)), .val (.int k1), .val (.int c1)]) rfl ?_
                  show Steps p.tables e below (T7.setTop (mkF m 309 #[.val (.int xb), .val (.int xf), .val (.int xt), .val (.ref ba), .val (.int fv), .val (.int tv), .val (.int (own_res ef tv 5 fv)), .val (.int lv), .val (.int (4 : Int32)), .val (.int (lv &&& (7 : Int32))), .val (.int (65536 : Int32)), .val (.int k1), .val (.int c1)] [])) tgt
                  refine XS.iload X7.here hx rfl (hb hby at_309) rfl ?_
                  show Steps p.tables e below (T7.setTop (mkF m 311 #[.val (.int xb), .val (.int xf), .val (.int xt), .val (.ref ba), .val (.int fv), .val (.int tv), .val (.int (own_res ef tv 5 fv)), .val (.int lv), .val (.int (4 : Int32)), .val (.int (lv &&& (7 : Int32))), .val (.int (65536 : Int32)), .val (.int k1), .val (.int c1)] [(.int (lv &&& (7 : Int32)))])) tgt
                  refine XS.bipush X7.here hx rfl (hb hby at_311) ?_
                  show Steps p.tables e below (T7.setTop (mkF m 313 #[.val (.int xb), .val (.int xf), .val (.int xt), .val (.ref ba), .val (.int fv), .val (.int tv), .val (.int (own_res ef tv 5 fv)), .val (.int lv), .val (.int (4 : Int32)), .val (.int (lv &&& (7 : Int32))), .val (.int (65536 : Int32)), .val (.int k1), .val (.int c1)] [(.int (6 : Int32)), (.int (lv &&& (7 : Int32)))])) tgt
                  refine XS.ishl X7.here hx rfl (hb hby at_313) rfl ?_
                  show Steps p.tables e below (T7.setTop (mkF m 314 #[.val (.int xb), .val (.int xf), .val (.int xt), .val (.ref ba), .val (.int fv), .val (.int tv), .val (.int (own_res ef tv 5 fv)), .val (.int lv), .val (.int (4 : Int32)), .val (.int (lv &&& (7 : Int32))), .val (.int (65536 : Int32)), .val (.int k1), .val (.int c1)] [(.int ((lv &&& (7 : Int32)) <<< ((6 : Int32) &&& 31)))])) tgt
                  refine XS.iload X7.here hx rfl (hb hby at_314) rfl ?_
                  show Steps p.tables e below (T7.setTop (mkF m 316 #[.val (.int xb), .val (.int xf), .val (.int xt), .val (.ref ba), .val (.int fv), .val (.int tv), .val (.int (own_res ef tv 5 fv)), .val (.int lv), .val (.int (4 : Int32)), .val (.int (lv &&& (7 : Int32))), .val (.int (65536 : Int32)), .val (.int k1), .val (.int c1)] [(.int c1), (.int ((lv &&& (7 : Int32)) <<< ((6 : Int32) &&& 31)))])) tgt
                  refine XS.bipush X7.here hx rfl (hb hby at_316) ?_
                  show Steps p.tables e below (T7.setTop (mkF m 318 #[.val (.int xb), .val (.int xf), .val (.int xt), .val (.ref ba), .val (.int fv), .val (.int tv), .val (.int (own_res ef tv 5 fv)), .val (.int lv), .val (.int (4 : Int32)), .val (.int (lv &&& (7 : Int32))), .val (.int (65536 : Int32)), .val (.int k1), .val (.int c1)] [(.int (63 : Int32)), (.int c1), (.int ((lv &&& (7 : Int32)) <<< ((6 : Int32) &&& 31)))])) tgt
                  refine XS.iand X7.here hx rfl (hb hby at_318) rfl ?_
                  show Steps p.tables e below (T7.setTop (mkF m 319 #[.val (.int xb), .val (.int xf), .val (.int xt), .val (.ref ba), .val (.int fv), .val (.int tv), .val (.int (own_res ef tv 5 fv)), .val (.int lv), .val (.int (4 : Int32)), .val (.int (lv &&& (7 : Int32))), .val (.int (65536 : Int32)), .val (.int k1), .val (.int c1)] [(.int (c1 &&& (63 : Int32))), (.int ((lv &&& (7 : Int32)) <<< ((6 : Int32) &&& 31)))])) tgt
                  refine XS.ior X7.here hx rfl (hb hby at_319) rfl ?_
                  show Steps p.tables e below (T7.setTop (mkF m 320 #[.val (.int xb), .val (.int xf), .val (.int xt), .val (.ref ba), .val (.int fv), .val (.int tv), .val (.int (own_res ef tv 5 fv)), .val (.int lv), .val (.int (4 : Int32)), .val (.int (lv &&& (7 : Int32))), .val (.int (65536 : Int32)), .val (.int k1), .val (.int c1)] [(.int (((lv &&& (7 : Int32)) <<< ((6 : Int32) &&& 31)) ||| (c1 &&& (63 : Int32))))])) tgt
                  refine XS.istore X7.here hx rfl (hb hby at_320) rfl (l' := #[.val (.int xb), .val (.int xf), .val (.int xt), .val (.ref ba), .val (.int fv), .val (.int tv), .val (.int (own_res ef tv 5 fv)), .val (.int lv), .val (.int (4 : Int32)), .val (.int (((lv &&& (7 : Int32)) <<< ((6 : Int32) &&& 31)) ||| (c1 &&& (63 : Int32)))), .val (.int (65536 : Int32)), .val (.int k1), .val (.int c1)]) rfl ?_
                  exact k
                obtain ⟨q2, hq2⟩ : ∃ z : Int32, z = (((lv &&& (7 : Int32)) <<< ((6 : Int32) &&& 31)) ||| (c1 &&& (63 : Int32))) := ⟨_, rfl⟩
                rw [← hq2]
                refine own_st (V := T7.setTop (mkF m 340 #[.val (.int xb), .val (.int xf), .val (.int xt), .val (.ref ba), .val (.int fv), .val (.int tv), .val (.int (own_res ef tv 5 fv)), .val (.int lv), .val (.int (4 : Int32)), .val (.int q2), .val (.int (65536 : Int32)), .val (.int k1), .val (.int ((ef (fv.toInt.toNat + 2)) &&& (255 : Int32)))] [])) (fun tgt k => ?_) ?_
                · show Steps p.tables e below (T7.setTop (mkF m 322 #[.val (.int xb), .val (.int xf), .val (.int xt), .val (.ref ba), .val (.int fv), .val (.int tv), .val (.int (own_res ef tv 5 fv)), .val (.int lv), .val (.int (4 : Int32)), .val (.int q2), .val (.int (65536 : Int32)), .val (.int k1), .val (.int c1)] [])) tgt
                  refine XS.iload X7.here hx rfl (hb hby at_322) rfl ?_
                  show Steps p.tables e below (T7.setTop (mkF m 324 #[.val (.int xb), .val (.int xf), .val (.int xt), .val (.ref ba), .val (.int fv), .val (.int tv), .val (.int (own_res ef tv 5 fv)), .val (.int lv), .val (.int (4 : Int32)), .val (.int q2), .val (.int (65536 : Int32)), .val (.int k1), .val (.int c1)] [(.int (4 : Int32))])) tgt
                  refine XS.iconst X7.here hx rfl (hb hby at_324) ?_
                  show Steps p.tables e below (T7.setTop (mkF m 325 #[.val (.int xb), .val (.int xf), .val (.int xt), .val (.ref ba), .val (.int fv), .val (.int tv), .val (.int (own_res ef tv 5 fv)), .val (.int lv), .val (.int (4 : Int32)), .val (.int q2), .val (.int (65536 : Int32)), .val (.int k1), .val (.int c1)] [(.int (3 : Int32)), (.int (4 : Int32))])) tgt
                  refine XS.icmpNo X7.here hx rfl (hb hby at_325) rfl (flt (by decide : ¬ ((4 : Int32) < (3 : Int32)))).1 ?_
                  show Steps p.tables e below (T7.setTop (mkF m 328 #[.val (.int xb), .val (.int xf), .val (.int xt), .val (.ref ba), .val (.int fv), .val (.int tv), .val (.int (own_res ef tv 5 fv)), .val (.int lv), .val (.int (4 : Int32)), .val (.int q2), .val (.int (65536 : Int32)), .val (.int k1), .val (.int c1)] [])) tgt
                  refine XS.aloadN X7.here hx rfl (hb hby at_328) rfl rfl ?_
                  show Steps p.tables e below (T7.setTop (mkF m 329 #[.val (.int xb), .val (.int xf), .val (.int xt), .val (.ref ba), .val (.int fv), .val (.int tv), .val (.int (own_res ef tv 5 fv)), .val (.int lv), .val (.int (4 : Int32)), .val (.int q2), .val (.int (65536 : Int32)), .val (.int k1), .val (.int c1)] [(.ref ba)])) tgt
                  refine XS.iload X7.here hx rfl (hb hby at_329) rfl ?_
                  show Steps p.tables e below (T7.setTop (mkF m 331 #[.val (.int xb), .val (.int xf), .val (.int xt), .val (.ref ba), .val (.int fv), .val (.int tv), .val (.int (own_res ef tv 5 fv)), .val (.int lv), .val (.int (4 : Int32)), .val (.int q2), .val (.int (65536 : Int32)), .val (.int k1), .val (.int c1)] [(.int fv), (.ref ba)])) tgt
                  refine XS.iconst X7.here hx rfl (hb hby at_331) ?_
                  show Steps p.tables e below (T7.setTop (mkF m 332 #[.val (.int xb), .val (.int xf), .val (.int xt), .val (.ref ba), .val (.int fv), .val (.int tv), .val (.int (own_res ef tv 5 fv)), .val (.int lv), .val (.int (4 : Int32)), .val (.int q2), .val (.int (65536 : Int32)), .val (.int k1), .val (.int c1)] [(.int (2 : Int32)), (.int fv), (.ref ba)])) tgt
                  refine XS.iadd X7.here hx rfl (hb hby at_332) rfl ?_
                  show Steps p.tables e below (T7.setTop (mkF m 333 #[.val (.int xb), .val (.int xf), .val (.int xt), .val (.ref ba), .val (.int fv), .val (.int tv), .val (.int (own_res ef tv 5 fv)), .val (.int lv), .val (.int (4 : Int32)), .val (.int q2), .val (.int (65536 : Int32)), .val (.int k1), .val (.int c1)] [(.int (fv + (2 : Int32))), (.ref ba)])) tgt
                  refine own_baload X7 hx hZ K7 Ag_ba_6 (j := (fv + (2 : Int32))) (k := (fv.toInt.toNat + 2)) a2 (by omega) (g := (mkF m 333 #[.val (.int xb), .val (.int xf), .val (.int xt), .val (.ref ba), .val (.int fv), .val (.int tv), .val (.int (own_res ef tv 5 fv)), .val (.int lv), .val (.int (4 : Int32)), .val (.int q2), .val (.int (65536 : Int32)), .val (.int k1), .val (.int c1)] [(.int (fv + (2 : Int32))), (.ref ba)])) rfl rfl (hb hby at_333) ?_
                  show Steps p.tables e below (T7.setTop (mkF m 334 #[.val (.int xb), .val (.int xf), .val (.int xt), .val (.ref ba), .val (.int fv), .val (.int tv), .val (.int (own_res ef tv 5 fv)), .val (.int lv), .val (.int (4 : Int32)), .val (.int q2), .val (.int (65536 : Int32)), .val (.int k1), .val (.int c1)] [(.int (ef (fv.toInt.toNat + 2)))])) tgt
                  refine XS.sipush X7.here hx rfl (hb hby at_334) ?_
                  show Steps p.tables e below (T7.setTop (mkF m 337 #[.val (.int xb), .val (.int xf), .val (.int xt), .val (.ref ba), .val (.int fv), .val (.int tv), .val (.int (own_res ef tv 5 fv)), .val (.int lv), .val (.int (4 : Int32)), .val (.int q2), .val (.int (65536 : Int32)), .val (.int k1), .val (.int c1)] [(.int (255 : Int32)), (.int (ef (fv.toInt.toNat + 2)))])) tgt
                  refine XS.iand X7.here hx rfl (hb hby at_337) rfl ?_
                  show Steps p.tables e below (T7.setTop (mkF m 338 #[.val (.int xb), .val (.int xf), .val (.int xt), .val (.ref ba), .val (.int fv), .val (.int tv), .val (.int (own_res ef tv 5 fv)), .val (.int lv), .val (.int (4 : Int32)), .val (.int q2), .val (.int (65536 : Int32)), .val (.int k1), .val (.int c1)] [(.int ((ef (fv.toInt.toNat + 2)) &&& (255 : Int32)))])) tgt
                  refine XS.istore X7.here hx rfl (hb hby at_338) rfl (l' := #[.val (.int xb), .val (.int xf), .val (.int xt), .val (.ref ba), .val (.int fv), .val (.int tv), .val (.int (own_res ef tv 5 fv)), .val (.int lv), .val (.int (4 : Int32)), .val (.int q2), .val (.int (65536 : Int32)), .val (.int k1), .val (.int ((ef (fv.toInt.toNat + 2)) &&& (255 : Int32)))]) rfl ?_
                  exact k
                obtain ⟨c2, hc2⟩ : ∃ z : Int32, z = ((ef (fv.toInt.toNat + 2)) &&& (255 : Int32)) := ⟨_, rfl⟩
                rw [← hc2]
                have hr2 : 0 ≤ c2.toInt ∧ c2.toInt ≤ 255 := by rw [hc2]; exact own_b255 _
                refine own_st (V := T7.setTop (mkF m 342 #[.val (.int xb), .val (.int xf), .val (.int xt), .val (.ref ba), .val (.int fv), .val (.int tv), .val (.int (own_res ef tv 5 fv)), .val (.int lv), .val (.int (4 : Int32)), .val (.int q2), .val (.int (65536 : Int32)), .val (.int k1), .val (.int c2)] [(.int k1)])) (fun tgt k => ?_) ?_
                · show Steps p.tables e below (T7.setTop (mkF m 340 #[.val (.int xb), .val (.int xf), .val (.int xt), .val (.ref ba), .val (.int fv), .val (.int tv), .val (.int (own_res ef tv 5 fv)), .val (.int lv), .val (.int (4 : Int32)), .val (.int q2), .val (.int (65536 : Int32)), .val (.int k1), .val (.int c2)] [])) tgt
                  refine XS.iload X7.here hx rfl (hb hby at_340) rfl ?_
                  exact k
                obtain ⟨k2, hk2⟩ : ∃ z : Int32, z = (if k1 = (0 : Int32) then (0 : Int32) else (if (c2 &&& (192 : Int32)) = (128 : Int32) then (1 : Int32) else (0 : Int32))) := ⟨_, rfl⟩
                refine own_st (V := T7.setTop (mkF m 362 #[.val (.int xb), .val (.int xf), .val (.int xt), .val (.ref ba), .val (.int fv), .val (.int tv), .val (.int (own_res ef tv 5 fv)), .val (.int lv), .val (.int (4 : Int32)), .val (.int q2), .val (.int (65536 : Int32)), .val (.int k1), .val (.int c2)] [(.int k2)])) (fun tgt k => ?_) ?_
                · skip
                  by_cases hc342_2 : k1 = (0 : Int32)
                  · skip
                    rw [if_pos hc342_2] at hk2
                    show Steps p.tables e below (T7.setTop (mkF m 342 #[.val (.int xb), .val (.int xf), .val (.int xt), .val (.ref ba), .val (.int fv), .val (.int tv), .val (.int (own_res ef tv 5 fv)), .val (.int lv), .val (.int (4 : Int32)), .val (.int q2), .val (.int (65536 : Int32)), .val (.int k1), .val (.int c2)] [(.int k1)])) tgt
                    refine XS.ifYes X7.here hx rfl (pc0 := 342) (pc' := 361) rfl (hb hby at_342) rfl ((if0 _ _).trans (teq hc342_2).1) (by decide) (by decide) ?_
                    show Steps p.tables e below (T7.setTop (mkF m 361 #[.val (.int xb), .val (.int xf), .val (.int xt), .val (.ref ba), .val (.int fv), .val (.int tv), .val (.int (own_res ef tv 5 fv)), .val (.int lv), .val (.int (4 : Int32)), .val (.int q2), .val (.int (65536 : Int32)), .val (.int k1), .val (.int c2)] [])) tgt
                    refine XS.iconst X7.here hx rfl (hb hby at_361) ?_
                    rw [hk2] at k
                    exact k
                  · skip
                    rw [if_neg hc342_2] at hk2
                    show Steps p.tables e below (T7.setTop (mkF m 342 #[.val (.int xb), .val (.int xf), .val (.int xt), .val (.ref ba), .val (.int fv), .val (.int tv), .val (.int (own_res ef tv 5 fv)), .val (.int lv), .val (.int (4 : Int32)), .val (.int q2), .val (.int (65536 : Int32)), .val (.int k1), .val (.int c2)] [(.int k1)])) tgt
                    refine XS.ifNo X7.here hx rfl (hb hby at_342) rfl ((if0 _ _).trans (feq hc342_2).1) ?_
                    show Steps p.tables e below (T7.setTop (mkF m 345 #[.val (.int xb), .val (.int xf), .val (.int xt), .val (.ref ba), .val (.int fv), .val (.int tv), .val (.int (own_res ef tv 5 fv)), .val (.int lv), .val (.int (4 : Int32)), .val (.int q2), .val (.int (65536 : Int32)), .val (.int k1), .val (.int c2)] [])) tgt
                    refine XS.iload X7.here hx rfl (hb hby at_345) rfl ?_
                    show Steps p.tables e below (T7.setTop (mkF m 347 #[.val (.int xb), .val (.int xf), .val (.int xt), .val (.ref ba), .val (.int fv), .val (.int tv), .val (.int (own_res ef tv 5 fv)), .val (.int lv), .val (.int (4 : Int32)), .val (.int q2), .val (.int (65536 : Int32)), .val (.int k1), .val (.int c2)] [(.int c2)])) tgt
                    refine XS.sipush X7.here hx rfl (hb hby at_347) ?_
                    show Steps p.tables e below (T7.setTop (mkF m 350 #[.val (.int xb), .val (.int xf), .val (.int xt), .val (.ref ba), .val (.int fv), .val (.int tv), .val (.int (own_res ef tv 5 fv)), .val (.int lv), .val (.int (4 : Int32)), .val (.int q2), .val (.int (65536 : Int32)), .val (.int k1), .val (.int c2)] [(.int (192 : Int32)), (.int c2)])) tgt
                    refine XS.iand X7.here hx rfl (hb hby at_350) rfl ?_
                    show Steps p.tables e below (T7.setTop (mkF m 351 #[.val (.int xb), .val (.int xf), .val (.int xt), .val (.ref ba), .val (.int fv), .val (.int tv), .val (.int (own_res ef tv 5 fv)), .val (.int lv), .val (.int (4 : Int32)), .val (.int q2), .val (.int (65536 : Int32)), .val (.int k1), .val (.int c2)] [(.int (c2 &&& (192 : Int32)))])) tgt
                    refine XS.sipush X7.here hx rfl (hb hby at_351) ?_
                    by_cases hc354 : (c2 &&& (192 : Int32)) = (128 : Int32)
                    · skip
                      rw [if_pos hc354] at hk2
                      show Steps p.tables e below (T7.setTop (mkF m 354 #[.val (.int xb), .val (.int xf), .val (.int xt), .val (.ref ba), .val (.int fv), .val (.int tv), .val (.int (own_res ef tv 5 fv)), .val (.int lv), .val (.int (4 : Int32)), .val (.int q2), .val (.int (65536 : Int32)), .val (.int k1), .val (.int c2)] [(.int (128 : Int32)), (.int (c2 &&& (192 : Int32)))])) tgt
                      refine XS.icmpNo X7.here hx rfl (hb hby at_354) rfl (teq hc354).2 ?_
                      show Steps p.tables e below (T7.setTop (mkF m 357 #[.val (.int xb), .val (.int xf), .val (.int xt), .val (.ref ba), .val (.int fv), .val (.int tv), .val (.int (own_res ef tv 5 fv)), .val (.int lv), .val (.int (4 : Int32)), .val (.int q2), .val (.int (65536 : Int32)), .val (.int k1), .val (.int c2)] [])) tgt
                      refine XS.iconst X7.here hx rfl (hb hby at_357) ?_
                      show Steps p.tables e below (T7.setTop (mkF m 358 #[.val (.int xb), .val (.int xf), .val (.int xt), .val (.ref ba), .val (.int fv), .val (.int tv), .val (.int (own_res ef tv 5 fv)), .val (.int lv), .val (.int (4 : Int32)), .val (.int q2), .val (.int (65536 : Int32)), .val (.int k1), .val (.int c2)] [(.int (1 : Int32))])) tgt
                      refine XS.goto X7.here hx rfl (pc0 := 358) (pc' := 362) rfl (hb hby at_358) (by decide) (by decide) ?_
                      rw [hk2] at k
                      exact k
                    · skip
                      rw [if_neg hc354] at hk2
                      show Steps p.tables e below (T7.setTop (mkF m 354 #[.val (.int xb), .val (.int xf), .val (.int xt), .val (.ref ba), .val (.int fv), .val (.int tv), .val (.int (own_res ef tv 5 fv)), .val (.int lv), .val (.int (4 : Int32)), .val (.int q2), .val (.int (65536 : Int32)), .val (.int k1), .val (.int c2)] [(.int (128 : Int32)), (.int (c2 &&& (192 : Int32)))])) tgt
                      refine XS.icmpYes X7.here hx rfl (pc0 := 354) (pc' := 361) rfl (hb hby at_354) rfl (feq hc354).2 (by decide) (by decide) ?_
                      show Steps p.tables e below (T7.setTop (mkF m 361 #[.val (.int xb), .val (.int xf), .val (.int xt), .val (.ref ba), .val (.int fv), .val (.int tv), .val (.int (own_res ef tv 5 fv)), .val (.int lv), .val (.int (4 : Int32)), .val (.int q2), .val (.int (65536 : Int32)), .val (.int k1), .val (.int c2)] [])) tgt
                      refine XS.iconst X7.here hx rfl (hb hby at_361) ?_
                      rw [hk2] at k
                      exact k
                refine own_st (V := T7.setTop (mkF m 377 #[.val (.int xb), .val (.int xf), .val (.int xt), .val (.ref ba), .val (.int fv), .val (.int tv), .val (.int (own_res ef tv 5 fv)), .val (.int lv), .val (.int (4 : Int32)), .val (.int ((q2 <<< ((6 : Int32) &&& 31)) ||| (c2 &&& (63 : Int32)))), .val (.int (65536 : Int32)), .val (.int k2), .val (.int c2)] [])) (fun tgt k => ?_) ?_
                · show Steps p.tables e below (T7.setTop (mkF m 362 #[.val (.int xb), .val (.int xf), .val (.int xt), .val (.ref ba), .val (.int fv), .val (.int tv), .val (.int (own_res ef tv 5 fv)), .val (.int lv), .val (.int (4 : Int32)), .val (.int q2), .val (.int (65536 : Int32)), .val (.int k1), .val (.int c2)] [(.int k2)])) tgt
                  refine XS.istore X7.here hx rfl (hb hby at_362) rfl (l' := #[.val (.int xb), .val (.int xf), .val (.int xt), .val (.ref ba), .val (.int fv), .val (.int tv), .val (.int (own_res ef tv 5 fv)), .val (.int lv), .val (.int (4 : Int32)), .val (.int q2), .val (.int (65536 : Int32)), .val (.int k2), .val (.int c2)]) rfl ?_
                  show Steps p.tables e below (T7.setTop (mkF m 364 #[.val (.int xb), .val (.int xf), .val (.int xt), .val (.ref ba), .val (.int fv), .val (.int tv), .val (.int (own_res ef tv 5 fv)), .val (.int lv), .val (.int (4 : Int32)), .val (.int q2), .val (.int (65536 : Int32)), .val (.int k2), .val (.int c2)] [])) tgt
                  refine XS.iload X7.here hx rfl (hb hby at_364) rfl ?_
                  show Steps p.tables e below (T7.setTop (mkF m 366 #[.val (.int xb), .val (.int xf), .val (.int xt), .val (.ref ba), .val (.int fv), .val (.int tv), .val (.int (own_res ef tv 5 fv)), .val (.int lv), .val (.int (4 : Int32)), .val (.int q2), .val (.int (65536 : Int32)), .val (.int k2), .val (.int c2)] [(.int q2)])) tgt
                  refine XS.bipush X7.here hx rfl (hb hby at_366) ?_
                  show Steps p.tables e below (T7.setTop (mkF m 368 #[.val (.int xb), .val (.int xf), .val (.int xt), .val (.ref ba), .val (.int fv), .val (.int tv), .val (.int (own_res ef tv 5 fv)), .val (.int lv), .val (.int (4 : Int32)), .val (.int q2), .val (.int (65536 : Int32)), .val (.int k2), .val (.int c2)] [(.int (6 : Int32)), (.int q2)])) tgt
                  refine XS.ishl X7.here hx rfl (hb hby at_368) rfl ?_
                  show Steps p.tables e below (T7.setTop (mkF m 369 #[.val (.int xb), .val (.int xf), .val (.int xt), .val (.ref ba), .val (.int fv), .val (.int tv), .val (.int (own_res ef tv 5 fv)), .val (.int lv), .val (.int (4 : Int32)), .val (.int q2), .val (.int (65536 : Int32)), .val (.int k2), .val (.int c2)] [(.int (q2 <<< ((6 : Int32) &&& 31)))])) tgt
                  refine XS.iload X7.here hx rfl (hb hby at_369) rfl ?_
                  show Steps p.tables e below (T7.setTop (mkF m 371 #[.val (.int xb), .val (.int xf), .val (.int xt), .val (.ref ba), .val (.int fv), .val (.int tv), .val (.int (own_res ef tv 5 fv)), .val (.int lv), .val (.int (4 : Int32)), .val (.int q2), .val (.int (65536 : Int32)), .val (.int k2), .val (.int c2)] [(.int c2), (.int (q2 <<< ((6 : Int32) &&& 31)))])) tgt
                  refine XS.bipush X7.here hx rfl (hb hby at_371) ?_
                  show Steps p.tables e below (T7.setTop (mkF m 373 #[.val (.int xb), .val (.int xf), .val (.int xt), .val (.ref ba), .val (.int fv), .val (.int tv), .val (.int (own_res ef tv 5 fv)), .val (.int lv), .val (.int (4 : Int32)), .val (.int q2), .val (.int (65536 : Int32)), .val (.int k2), .val (.int c2)] [(.int (63 : Int32)), (.int c2), (.int (q2 <<< ((6 : Int32) &&& 31)))])) tgt
                  refine XS.iand X7.here hx rfl (hb hby at_373) rfl ?_
                  show Steps p.tables e below (T7.setTop (mkF m 374 #[.val (.int xb), .val (.int xf), .val (.int xt), .val (.ref ba), .val (.int fv), .val (.int tv), .val (.int (own_res ef tv 5 fv)), .val (.int lv), .val (.int (4 : Int32)), .val (.int q2), .val (.int (65536 : Int32)), .val (.int k2), .val (.int c2)] [(.int (c2 &&& (63 : Int32))), (.int (q2 <<< ((6 : Int32) &&& 31)))])) tgt
                  refine XS.ior X7.here hx rfl (hb hby at_374) rfl ?_
                  show Steps p.tables e below (T7.setTop (mkF m 375 #[.val (.int xb), .val (.int xf), .val (.int xt), .val (.ref ba), .val (.int fv), .val (.int tv), .val (.int (own_res ef tv 5 fv)), .val (.int lv), .val (.int (4 : Int32)), .val (.int q2), .val (.int (65536 : Int32)), .val (.int k2), .val (.int c2)] [(.int ((q2 <<< ((6 : Int32) &&& 31)) ||| (c2 &&& (63 : Int32))))])) tgt
                  refine XS.istore X7.here hx rfl (hb hby at_375) rfl (l' := #[.val (.int xb), .val (.int xf), .val (.int xt), .val (.ref ba), .val (.int fv), .val (.int tv), .val (.int (own_res ef tv 5 fv)), .val (.int lv), .val (.int (4 : Int32)), .val (.int ((q2 <<< ((6 : Int32) &&& 31)) ||| (c2 &&& (63 : Int32)))), .val (.int (65536 : Int32)), .val (.int k2), .val (.int c2)]) rfl ?_
                  exact k
                obtain ⟨q3, hq3⟩ : ∃ z : Int32, z = ((q2 <<< ((6 : Int32) &&& 31)) ||| (c2 &&& (63 : Int32))) := ⟨_, rfl⟩
                rw [← hq3]
                refine own_st (V := T7.setTop (mkF m 395 #[.val (.int xb), .val (.int xf), .val (.int xt), .val (.ref ba), .val (.int fv), .val (.int tv), .val (.int (own_res ef tv 5 fv)), .val (.int lv), .val (.int (4 : Int32)), .val (.int q3), .val (.int (65536 : Int32)), .val (.int k2), .val (.int ((ef (fv.toInt.toNat + 3)) &&& (255 : Int32)))] [])) (fun tgt k => ?_) ?_
                · show Steps p.tables e below (T7.setTop (mkF m 377 #[.val (.int xb), .val (.int xf), .val (.int xt), .val (.ref ba), .val (.int fv), .val (.int tv), .val (.int (own_res ef tv 5 fv)), .val (.int lv), .val (.int (4 : Int32)), .val (.int q3), .val (.int (65536 : Int32)), .val (.int k2), .val (.int c2)] [])) tgt
                  refine XS.iload X7.here hx rfl (hb hby at_377) rfl ?_
                  show Steps p.tables e below (T7.setTop (mkF m 379 #[.val (.int xb), .val (.int xf), .val (.int xt), .val (.ref ba), .val (.int fv), .val (.int tv), .val (.int (own_res ef tv 5 fv)), .val (.int lv), .val (.int (4 : Int32)), .val (.int q3), .val (.int (65536 : Int32)), .val (.int k2), .val (.int c2)] [(.int (4 : Int32))])) tgt
                  refine XS.iconst X7.here hx rfl (hb hby at_379) ?_
                  show Steps p.tables e below (T7.setTop (mkF m 380 #[.val (.int xb), .val (.int xf), .val (.int xt), .val (.ref ba), .val (.int fv), .val (.int tv), .val (.int (own_res ef tv 5 fv)), .val (.int lv), .val (.int (4 : Int32)), .val (.int q3), .val (.int (65536 : Int32)), .val (.int k2), .val (.int c2)] [(.int (4 : Int32)), (.int (4 : Int32))])) tgt
                  refine XS.icmpNo X7.here hx rfl (hb hby at_380) rfl (flt (by decide : ¬ ((4 : Int32) < (4 : Int32)))).1 ?_
                  show Steps p.tables e below (T7.setTop (mkF m 383 #[.val (.int xb), .val (.int xf), .val (.int xt), .val (.ref ba), .val (.int fv), .val (.int tv), .val (.int (own_res ef tv 5 fv)), .val (.int lv), .val (.int (4 : Int32)), .val (.int q3), .val (.int (65536 : Int32)), .val (.int k2), .val (.int c2)] [])) tgt
                  refine XS.aloadN X7.here hx rfl (hb hby at_383) rfl rfl ?_
                  show Steps p.tables e below (T7.setTop (mkF m 384 #[.val (.int xb), .val (.int xf), .val (.int xt), .val (.ref ba), .val (.int fv), .val (.int tv), .val (.int (own_res ef tv 5 fv)), .val (.int lv), .val (.int (4 : Int32)), .val (.int q3), .val (.int (65536 : Int32)), .val (.int k2), .val (.int c2)] [(.ref ba)])) tgt
                  refine XS.iload X7.here hx rfl (hb hby at_384) rfl ?_
                  show Steps p.tables e below (T7.setTop (mkF m 386 #[.val (.int xb), .val (.int xf), .val (.int xt), .val (.ref ba), .val (.int fv), .val (.int tv), .val (.int (own_res ef tv 5 fv)), .val (.int lv), .val (.int (4 : Int32)), .val (.int q3), .val (.int (65536 : Int32)), .val (.int k2), .val (.int c2)] [(.int fv), (.ref ba)])) tgt
                  refine XS.iconst X7.here hx rfl (hb hby at_386) ?_
                  show Steps p.tables e below (T7.setTop (mkF m 387 #[.val (.int xb), .val (.int xf), .val (.int xt), .val (.ref ba), .val (.int fv), .val (.int tv), .val (.int (own_res ef tv 5 fv)), .val (.int lv), .val (.int (4 : Int32)), .val (.int q3), .val (.int (65536 : Int32)), .val (.int k2), .val (.int c2)] [(.int (3 : Int32)), (.int fv), (.ref ba)])) tgt
                  refine XS.iadd X7.here hx rfl (hb hby at_387) rfl ?_
                  show Steps p.tables e below (T7.setTop (mkF m 388 #[.val (.int xb), .val (.int xf), .val (.int xt), .val (.ref ba), .val (.int fv), .val (.int tv), .val (.int (own_res ef tv 5 fv)), .val (.int lv), .val (.int (4 : Int32)), .val (.int q3), .val (.int (65536 : Int32)), .val (.int k2), .val (.int c2)] [(.int (fv + (3 : Int32))), (.ref ba)])) tgt
                  refine own_baload X7 hx hZ K7 Ag_ba_6 (j := (fv + (3 : Int32))) (k := (fv.toInt.toNat + 3)) a3 (by omega) (g := (mkF m 388 #[.val (.int xb), .val (.int xf), .val (.int xt), .val (.ref ba), .val (.int fv), .val (.int tv), .val (.int (own_res ef tv 5 fv)), .val (.int lv), .val (.int (4 : Int32)), .val (.int q3), .val (.int (65536 : Int32)), .val (.int k2), .val (.int c2)] [(.int (fv + (3 : Int32))), (.ref ba)])) rfl rfl (hb hby at_388) ?_
                  show Steps p.tables e below (T7.setTop (mkF m 389 #[.val (.int xb), .val (.int xf), .val (.int xt), .val (.ref ba), .val (.int fv), .val (.int tv), .val (.int (own_res ef tv 5 fv)), .val (.int lv), .val (.int (4 : Int32)), .val (.int q3), .val (.int (65536 : Int32)), .val (.int k2), .val (.int c2)] [(.int (ef (fv.toInt.toNat + 3)))])) tgt
                  refine XS.sipush X7.here hx rfl (hb hby at_389) ?_
                  show Steps p.tables e below (T7.setTop (mkF m 392 #[.val (.int xb), .val (.int xf), .val (.int xt), .val (.ref ba), .val (.int fv), .val (.int tv), .val (.int (own_res ef tv 5 fv)), .val (.int lv), .val (.int (4 : Int32)), .val (.int q3), .val (.int (65536 : Int32)), .val (.int k2), .val (.int c2)] [(.int (255 : Int32)), (.int (ef (fv.toInt.toNat + 3)))])) tgt
                  refine XS.iand X7.here hx rfl (hb hby at_392) rfl ?_
                  show Steps p.tables e below (T7.setTop (mkF m 393 #[.val (.int xb), .val (.int xf), .val (.int xt), .val (.ref ba), .val (.int fv), .val (.int tv), .val (.int (own_res ef tv 5 fv)), .val (.int lv), .val (.int (4 : Int32)), .val (.int q3), .val (.int (65536 : Int32)), .val (.int k2), .val (.int c2)] [(.int ((ef (fv.toInt.toNat + 3)) &&& (255 : Int32)))])) tgt
                  refine XS.istore X7.here hx rfl (hb hby at_393) rfl (l' := #[.val (.int xb), .val (.int xf), .val (.int xt), .val (.ref ba), .val (.int fv), .val (.int tv), .val (.int (own_res ef tv 5 fv)), .val (.int lv), .val (.int (4 : Int32)), .val (.int q3), .val (.int (65536 : Int32)), .val (.int k2), .val (.int ((ef (fv.toInt.toNat + 3)) &&& (255 : Int32)))]) rfl ?_
                  exact k
                obtain ⟨c3, hc3⟩ : ∃ z : Int32, z = ((ef (fv.toInt.toNat + 3)) &&& (255 : Int32)) := ⟨_, rfl⟩
                rw [← hc3]
                have hr3 : 0 ≤ c3.toInt ∧ c3.toInt ≤ 255 := by rw [hc3]; exact own_b255 _
                refine own_st (V := T7.setTop (mkF m 397 #[.val (.int xb), .val (.int xf), .val (.int xt), .val (.ref ba), .val (.int fv), .val (.int tv), .val (.int (own_res ef tv 5 fv)), .val (.int lv), .val (.int (4 : Int32)), .val (.int q3), .val (.int (65536 : Int32)), .val (.int k2), .val (.int c3)] [(.int k2)])) (fun tgt k => ?_) ?_
                · show Steps p.tables e below (T7.setTop (mkF m 395 #[.val (.int xb), .val (.int xf), .val (.int xt), .val (.ref ba), .val (.int fv), .val (.int tv), .val (.int (own_res ef tv 5 fv)), .val (.int lv), .val (.int (4 : Int32)), .val (.int q3), .val (.int (65536 : Int32)), .val (.int k2), .val (.int c3)] [])) tgt
                  refine XS.iload X7.here hx rfl (hb hby at_395) rfl ?_
                  exact k
                obtain ⟨k3, hk3⟩ : ∃ z : Int32, z = (if k2 = (0 : Int32) then (0 : Int32) else (if (c3 &&& (192 : Int32)) = (128 : Int32) then (1 : Int32) else (0 : Int32))) := ⟨_, rfl⟩
                refine own_st (V := T7.setTop (mkF m 417 #[.val (.int xb), .val (.int xf), .val (.int xt), .val (.ref ba), .val (.int fv), .val (.int tv), .val (.int (own_res ef tv 5 fv)), .val (.int lv), .val (.int (4 : Int32)), .val (.int q3), .val (.int (65536 : Int32)), .val (.int k2), .val (.int c3)] [(.int k3)])) (fun tgt k => ?_) ?_
                · skip
                  by_cases hc397_2 : k2 = (0 : Int32)
                  · skip
                    rw [if_pos hc397_2] at hk3
                    show Steps p.tables e below (T7.setTop (mkF m 397 #[.val (.int xb), .val (.int xf), .val (.int xt), .val (.ref ba), .val (.int fv), .val (.int tv), .val (.int (own_res ef tv 5 fv)), .val (.int lv), .val (.int (4 : Int32)), .val (.int q3), .val (.int (65536 : Int32)), .val (.int k2), .val (.int c3)] [(.int k2)])) tgt
                    refine XS.ifYes X7.here hx rfl (pc0 := 397) (pc' := 416) rfl (hb hby at_397) rfl ((if0 _ _).trans (teq hc397_2).1) (by decide) (by decide) ?_
                    show Steps p.tables e below (T7.setTop (mkF m 416 #[.val (.int xb), .val (.int xf), .val (.int xt), .val (.ref ba), .val (.int fv), .val (.int tv), .val (.int (own_res ef tv 5 fv)), .val (.int lv), .val (.int (4 : Int32)), .val (.int q3), .val (.int (65536 : Int32)), .val (.int k2), .val (.int c3)] [])) tgt
                    refine XS.iconst X7.here hx rfl (hb hby at_416) ?_
                    rw [hk3] at k
                    exact k
                  · skip
                    rw [if_neg hc397_2] at hk3
                    show Steps p.tables e below (T7.setTop (mkF m 397 #[.val (.int xb), .val (.int xf), .val (.int xt), .val (.ref ba), .val (.int fv), .val (.int tv), .val (.int (own_res ef tv 5 fv)), .val (.int lv), .val (.int (4 : Int32)), .val (.int q3), .val (.int (65536 : Int32)), .val (.int k2), .val (.int c3)] [(.int k2)])) tgt
                    refine XS.ifNo X7.here hx rfl (hb hby at_397) rfl ((if0 _ _).trans (feq hc397_2).1) ?_
                    show Steps p.tables e below (T7.setTop (mkF m 400 #[.val (.int xb), .val (.int xf), .val (.int xt), .val (.ref ba), .val (.int fv), .val (.int tv), .val (.int (own_res ef tv 5 fv)), .val (.int lv), .val (.int (4 : Int32)), .val (.int q3), .val (.int (65536 : Int32)), .val (.int k2), .val (.int c3)] [])) tgt
                    refine XS.iload X7.here hx rfl (hb hby at_400) rfl ?_
                    show Steps p.tables e below (T7.setTop (mkF m 402 #[.val (.int xb), .val (.int xf), .val (.int xt), .val (.ref ba), .val (.int fv), .val (.int tv), .val (.int (own_res ef tv 5 fv)), .val (.int lv), .val (.int (4 : Int32)), .val (.int q3), .val (.int (65536 : Int32)), .val (.int k2), .val (.int c3)] [(.int c3)])) tgt
                    refine XS.sipush X7.here hx rfl (hb hby at_402) ?_
                    show Steps p.tables e below (T7.setTop (mkF m 405 #[.val (.int xb), .val (.int xf), .val (.int xt), .val (.ref ba), .val (.int fv), .val (.int tv), .val (.int (own_res ef tv 5 fv)), .val (.int lv), .val (.int (4 : Int32)), .val (.int q3), .val (.int (65536 : Int32)), .val (.int k2), .val (.int c3)] [(.int (192 : Int32)), (.int c3)])) tgt
                    refine XS.iand X7.here hx rfl (hb hby at_405) rfl ?_
                    show Steps p.tables e below (T7.setTop (mkF m 406 #[.val (.int xb), .val (.int xf), .val (.int xt), .val (.ref ba), .val (.int fv), .val (.int tv), .val (.int (own_res ef tv 5 fv)), .val (.int lv), .val (.int (4 : Int32)), .val (.int q3), .val (.int (65536 : Int32)), .val (.int k2), .val (.int c3)] [(.int (c3 &&& (192 : Int32)))])) tgt
                    refine XS.sipush X7.here hx rfl (hb hby at_406) ?_
                    by_cases hc409 : (c3 &&& (192 : Int32)) = (128 : Int32)
                    · skip
                      rw [if_pos hc409] at hk3
                      show Steps p.tables e below (T7.setTop (mkF m 409 #[.val (.int xb), .val (.int xf), .val (.int xt), .val (.ref ba), .val (.int fv), .val (.int tv), .val (.int (own_res ef tv 5 fv)), .val (.int lv), .val (.int (4 : Int32)), .val (.int q3), .val (.int (65536 : Int32)), .val (.int k2), .val (.int c3)] [(.int (128 : Int32)), (.int (c3 &&& (192 : Int32)))])) tgt
                      refine XS.icmpNo X7.here hx rfl (hb hby at_409) rfl (teq hc409).2 ?_
                      show Steps p.tables e below (T7.setTop (mkF m 412 #[.val (.int xb), .val (.int xf), .val (.int xt), .val (.ref ba), .val (.int fv), .val (.int tv), .val (.int (own_res ef tv 5 fv)), .val (.int lv), .val (.int (4 : Int32)), .val (.int q3), .val (.int (65536 : Int32)), .val (.int k2), .val (.int c3)] [])) tgt
                      refine XS.iconst X7.here hx rfl (hb hby at_412) ?_
                      show Steps p.tables e below (T7.setTop (mkF m 413 #[.val (.int xb), .val (.int xf), .val (.int xt), .val (.ref ba), .val (.int fv), .val (.int tv), .val (.int (own_res ef tv 5 fv)), .val (.int lv), .val (.int (4 : Int32)), .val (.int q3), .val (.int (65536 : Int32)), .val (.int k2), .val (.int c3)] [(.int (1 : Int32))])) tgt
                      refine XS.goto X7.here hx rfl (pc0 := 413) (pc' := 417) rfl (hb hby at_413) (by decide) (by decide) ?_
                      rw [hk3] at k
                      exact k
                    · skip
                      rw [if_neg hc409] at hk3
                      show Steps p.tables e below (T7.setTop (mkF m 409 #[.val (.int xb), .val (.int xf), .val (.int xt), .val (.ref ba), .val (.int fv), .val (.int tv), .val (.int (own_res ef tv 5 fv)), .val (.int lv), .val (.int (4 : Int32)), .val (.int q3), .val (.int (65536 : Int32)), .val (.int k2), .val (.int c3)] [(.int (128 : Int32)), (.int (c3 &&& (192 : Int32)))])) tgt
                      refine XS.icmpYes X7.here hx rfl (pc0 := 409) (pc' := 416) rfl (hb hby at_409) rfl (feq hc409).2 (by decide) (by decide) ?_
                      show Steps p.tables e below (T7.setTop (mkF m 416 #[.val (.int xb), .val (.int xf), .val (.int xt), .val (.ref ba), .val (.int fv), .val (.int tv), .val (.int (own_res ef tv 5 fv)), .val (.int lv), .val (.int (4 : Int32)), .val (.int q3), .val (.int (65536 : Int32)), .val (.int k2), .val (.int c3)] [])) tgt
                      refine XS.iconst X7.here hx rfl (hb hby at_416) ?_
                      rw [hk3] at k
                      exact k
                refine own_st (V := T7.setTop (mkF m 432 #[.val (.int xb), .val (.int xf), .val (.int xt), .val (.ref ba), .val (.int fv), .val (.int tv), .val (.int (own_res ef tv 5 fv)), .val (.int lv), .val (.int (4 : Int32)), .val (.int ((q3 <<< ((6 : Int32) &&& 31)) ||| (c3 &&& (63 : Int32)))), .val (.int (65536 : Int32)), .val (.int k3), .val (.int c3)] [])) (fun tgt k => ?_) ?_
                · show Steps p.tables e below (T7.setTop (mkF m 417 #[.val (.int xb), .val (.int xf), .val (.int xt), .val (.ref ba), .val (.int fv), .val (.int tv), .val (.int (own_res ef tv 5 fv)), .val (.int lv), .val (.int (4 : Int32)), .val (.int q3), .val (.int (65536 : Int32)), .val (.int k2), .val (.int c3)] [(.int k3)])) tgt
                  refine XS.istore X7.here hx rfl (hb hby at_417) rfl (l' := #[.val (.int xb), .val (.int xf), .val (.int xt), .val (.ref ba), .val (.int fv), .val (.int tv), .val (.int (own_res ef tv 5 fv)), .val (.int lv), .val (.int (4 : Int32)), .val (.int q3), .val (.int (65536 : Int32)), .val (.int k3), .val (.int c3)]) rfl ?_
                  show Steps p.tables e below (T7.setTop (mkF m 419 #[.val (.int xb), .val (.int xf), .val (.int xt), .val (.ref ba), .val (.int fv), .val (.int tv), .val (.int (own_res ef tv 5 fv)), .val (.int lv), .val (.int (4 : Int32)), .val (.int q3), .val (.int (65536 : Int32)), .val (.int k3), .val (.int c3)] [])) tgt
                  refine XS.iload X7.here hx rfl (hb hby at_419) rfl ?_
                  show Steps p.tables e below (T7.setTop (mkF m 421 #[.val (.int xb), .val (.int xf), .val (.int xt), .val (.ref ba), .val (.int fv), .val (.int tv), .val (.int (own_res ef tv 5 fv)), .val (.int lv), .val (.int (4 : Int32)), .val (.int q3), .val (.int (65536 : Int32)), .val (.int k3), .val (.int c3)] [(.int q3)])) tgt
                  refine XS.bipush X7.here hx rfl (hb hby at_421) ?_
                  show Steps p.tables e below (T7.setTop (mkF m 423 #[.val (.int xb), .val (.int xf), .val (.int xt), .val (.ref ba), .val (.int fv), .val (.int tv), .val (.int (own_res ef tv 5 fv)), .val (.int lv), .val (.int (4 : Int32)), .val (.int q3), .val (.int (65536 : Int32)), .val (.int k3), .val (.int c3)] [(.int (6 : Int32)), (.int q3)])) tgt
                  refine XS.ishl X7.here hx rfl (hb hby at_423) rfl ?_
                  show Steps p.tables e below (T7.setTop (mkF m 424 #[.val (.int xb), .val (.int xf), .val (.int xt), .val (.ref ba), .val (.int fv), .val (.int tv), .val (.int (own_res ef tv 5 fv)), .val (.int lv), .val (.int (4 : Int32)), .val (.int q3), .val (.int (65536 : Int32)), .val (.int k3), .val (.int c3)] [(.int (q3 <<< ((6 : Int32) &&& 31)))])) tgt
                  refine XS.iload X7.here hx rfl (hb hby at_424) rfl ?_
                  show Steps p.tables e below (T7.setTop (mkF m 426 #[.val (.int xb), .val (.int xf), .val (.int xt), .val (.ref ba), .val (.int fv), .val (.int tv), .val (.int (own_res ef tv 5 fv)), .val (.int lv), .val (.int (4 : Int32)), .val (.int q3), .val (.int (65536 : Int32)), .val (.int k3), .val (.int c3)] [(.int c3), (.int (q3 <<< ((6 : Int32) &&& 31)))])) tgt
                  refine XS.bipush X7.here hx rfl (hb hby at_426) ?_
                  show Steps p.tables e below (T7.setTop (mkF m 428 #[.val (.int xb), .val (.int xf), .val (.int xt), .val (.ref ba), .val (.int fv), .val (.int tv), .val (.int (own_res ef tv 5 fv)), .val (.int lv), .val (.int (4 : Int32)), .val (.int q3), .val (.int (65536 : Int32)), .val (.int k3), .val (.int c3)] [(.int (63 : Int32)), (.int c3), (.int (q3 <<< ((6 : Int32) &&& 31)))])) tgt
                  refine XS.iand X7.here hx rfl (hb hby at_428) rfl ?_
                  show Steps p.tables e below (T7.setTop (mkF m 429 #[.val (.int xb), .val (.int xf), .val (.int xt), .val (.ref ba), .val (.int fv), .val (.int tv), .val (.int (own_res ef tv 5 fv)), .val (.int lv), .val (.int (4 : Int32)), .val (.int q3), .val (.int (65536 : Int32)), .val (.int k3), .val (.int c3)] [(.int (c3 &&& (63 : Int32))), (.int (q3 <<< ((6 : Int32) &&& 31)))])) tgt
                  refine XS.ior X7.here hx rfl (hb hby at_429) rfl ?_
                  show Steps p.tables e below (T7.setTop (mkF m 430 #[.val (.int xb), .val (.int xf), .val (.int xt), .val (.ref ba), .val (.int fv), .val (.int tv), .val (.int (own_res ef tv 5 fv)), .val (.int lv), .val (.int (4 : Int32)), .val (.int q3), .val (.int (65536 : Int32)), .val (.int k3), .val (.int c3)] [(.int ((q3 <<< ((6 : Int32) &&& 31)) ||| (c3 &&& (63 : Int32))))])) tgt
                  refine XS.istore X7.here hx rfl (hb hby at_430) rfl (l' := #[.val (.int xb), .val (.int xf), .val (.int xt), .val (.ref ba), .val (.int fv), .val (.int tv), .val (.int (own_res ef tv 5 fv)), .val (.int lv), .val (.int (4 : Int32)), .val (.int ((q3 <<< ((6 : Int32) &&& 31)) ||| (c3 &&& (63 : Int32)))), .val (.int (65536 : Int32)), .val (.int k3), .val (.int c3)]) rfl ?_
                  exact k
                obtain ⟨q4, hq4⟩ : ∃ z : Int32, z = ((q3 <<< ((6 : Int32) &&& 31)) ||| (c3 &&& (63 : Int32))) := ⟨_, rfl⟩
                rw [← hq4]
                refine own_st (V := T7.setTop (mkF m 434 #[.val (.int xb), .val (.int xf), .val (.int xt), .val (.ref ba), .val (.int fv), .val (.int tv), .val (.int (own_res ef tv 5 fv)), .val (.int lv), .val (.int (4 : Int32)), .val (.int q4), .val (.int (65536 : Int32)), .val (.int k3), .val (.int c3)] [(.int k3)])) (fun tgt k => ?_) ?_
                · show Steps p.tables e below (T7.setTop (mkF m 432 #[.val (.int xb), .val (.int xf), .val (.int xt), .val (.ref ba), .val (.int fv), .val (.int tv), .val (.int (own_res ef tv 5 fv)), .val (.int lv), .val (.int (4 : Int32)), .val (.int q4), .val (.int (65536 : Int32)), .val (.int k3), .val (.int c3)] [])) tgt
                  refine XS.iload X7.here hx rfl (hb hby at_432) rfl ?_
                  exact k
                obtain ⟨vd, hvd⟩ : ∃ z : Int32, z = (if k3 = (0 : Int32) then (0 : Int32) else (if q4 < (65536 : Int32) then (0 : Int32) else (if (1114111 : Int32) < q4 then (0 : Int32) else (if q4 < (55296 : Int32) then (1 : Int32) else (if (57343 : Int32) < q4 then (1 : Int32) else (0 : Int32)))))) := ⟨_, rfl⟩
                refine own_st (V := T7.setTop (mkF m 470 #[.val (.int xb), .val (.int xf), .val (.int xt), .val (.ref ba), .val (.int fv), .val (.int tv), .val (.int (own_res ef tv 5 fv)), .val (.int lv), .val (.int (4 : Int32)), .val (.int q4), .val (.int (65536 : Int32)), .val (.int k3), .val (.int c3)] [(.int vd)])) (fun tgt k => ?_) ?_
                · skip
                  by_cases hc434_2 : k3 = (0 : Int32)
                  · skip
                    rw [if_pos hc434_2] at hvd
                    show Steps p.tables e below (T7.setTop (mkF m 434 #[.val (.int xb), .val (.int xf), .val (.int xt), .val (.ref ba), .val (.int fv), .val (.int tv), .val (.int (own_res ef tv 5 fv)), .val (.int lv), .val (.int (4 : Int32)), .val (.int q4), .val (.int (65536 : Int32)), .val (.int k3), .val (.int c3)] [(.int k3)])) tgt
                    refine XS.ifYes X7.here hx rfl (pc0 := 434) (pc' := 469) rfl (hb hby at_434) rfl ((if0 _ _).trans (teq hc434_2).1) (by decide) (by decide) ?_
                    show Steps p.tables e below (T7.setTop (mkF m 469 #[.val (.int xb), .val (.int xf), .val (.int xt), .val (.ref ba), .val (.int fv), .val (.int tv), .val (.int (own_res ef tv 5 fv)), .val (.int lv), .val (.int (4 : Int32)), .val (.int q4), .val (.int (65536 : Int32)), .val (.int k3), .val (.int c3)] [])) tgt
                    refine XS.iconst X7.here hx rfl (hb hby at_469) ?_
                    rw [hvd] at k
                    exact k
                  · skip
                    rw [if_neg hc434_2] at hvd
                    show Steps p.tables e below (T7.setTop (mkF m 434 #[.val (.int xb), .val (.int xf), .val (.int xt), .val (.ref ba), .val (.int fv), .val (.int tv), .val (.int (own_res ef tv 5 fv)), .val (.int lv), .val (.int (4 : Int32)), .val (.int q4), .val (.int (65536 : Int32)), .val (.int k3), .val (.int c3)] [(.int k3)])) tgt
                    refine XS.ifNo X7.here hx rfl (hb hby at_434) rfl ((if0 _ _).trans (feq hc434_2).1) ?_
                    show Steps p.tables e below (T7.setTop (mkF m 437 #[.val (.int xb), .val (.int xf), .val (.int xt), .val (.ref ba), .val (.int fv), .val (.int tv), .val (.int (own_res ef tv 5 fv)), .val (.int lv), .val (.int (4 : Int32)), .val (.int q4), .val (.int (65536 : Int32)), .val (.int k3), .val (.int c3)] [])) tgt
                    refine XS.iload X7.here hx rfl (hb hby at_437) rfl ?_
                    show Steps p.tables e below (T7.setTop (mkF m 439 #[.val (.int xb), .val (.int xf), .val (.int xt), .val (.ref ba), .val (.int fv), .val (.int tv), .val (.int (own_res ef tv 5 fv)), .val (.int lv), .val (.int (4 : Int32)), .val (.int q4), .val (.int (65536 : Int32)), .val (.int k3), .val (.int c3)] [(.int q4)])) tgt
                    refine XS.iload X7.here hx rfl (hb hby at_439) rfl ?_
                    by_cases hc441 : q4 < (65536 : Int32)
                    · skip
                      rw [if_pos hc441] at hvd
                      show Steps p.tables e below (T7.setTop (mkF m 441 #[.val (.int xb), .val (.int xf), .val (.int xt), .val (.ref ba), .val (.int fv), .val (.int tv), .val (.int (own_res ef tv 5 fv)), .val (.int lv), .val (.int (4 : Int32)), .val (.int q4), .val (.int (65536 : Int32)), .val (.int k3), .val (.int c3)] [(.int (65536 : Int32)), (.int q4)])) tgt
                      refine XS.icmpYes X7.here hx rfl (pc0 := 441) (pc' := 469) rfl (hb hby at_441) rfl (tlt hc441).1 (by decide) (by decide) ?_
                      show Steps p.tables e below (T7.setTop (mkF m 469 #[.val (.int xb), .val (.int xf), .val (.int xt), .val (.ref ba), .val (.int fv), .val (.int tv), .val (.int (own_res ef tv 5 fv)), .val (.int lv), .val (.int (4 : Int32)), .val (.int q4), .val (.int (65536 : Int32)), .val (.int k3), .val (.int c3)] [])) tgt
                      refine XS.iconst X7.here hx rfl (hb hby at_469) ?_
                      rw [hvd] at k
                      exact k
                    · skip
                      rw [if_neg hc441] at hvd
                      show Steps p.tables e below (T7.setTop (mkF m 441 #[.val (.int xb), .val (.int xf), .val (.int xt), .val (.ref ba), .val (.int fv), .val (.int tv), .val (.int (own_res ef tv 5 fv)), .val (.int lv), .val (.int (4 : Int32)), .val (.int q4), .val (.int (65536 : Int32)), .val (.int k3), .val (.int c3)] [(.int (65536 : Int32)), (.int q4)])) tgt
                      refine XS.icmpNo X7.here hx rfl (hb hby at_441) rfl (flt hc441).1 ?_
                      show Steps p.tables e below (T7.setTop (mkF m 444 #[.val (.int xb), .val (.int xf), .val (.int xt), .val (.ref ba), .val (.int fv), .val (.int tv), .val (.int (own_res ef tv 5 fv)), .val (.int lv), .val (.int (4 : Int32)), .val (.int q4), .val (.int (65536 : Int32)), .val (.int k3), .val (.int c3)] [])) tgt
                      refine XS.iload X7.here hx rfl (hb hby at_444) rfl ?_
                      show Steps p.tables e below (T7.setTop (mkF m 446 #[.val (.int xb), .val (.int xf), .val (.int xt), .val (.ref ba), .val (.int fv), .val (.int tv), .val (.int (own_res ef tv 5 fv)), .val (.int lv), .val (.int (4 : Int32)), .val (.int q4), .val (.int (65536 : Int32)), .val (.int k3), .val (.int c3)] [(.int q4)])) tgt
                      refine X7.ldcInt hx hown (mvT hZ (hw _ (List.mem_of_getElem? (i := 6) rfl))) (g := (mkF m 446 #[.val (.int xb), .val (.int xf), .val (.int xt), .val (.ref ba), .val (.int fv), .val (.int tv), .val (.int (own_res ef tv 5 fv)), .val (.int lv), .val (.int (4 : Int32)), .val (.int q4), .val (.int (65536 : Int32)), .val (.int k3), .val (.int c3)] [(.int q4)])) rfl (hb hby at_446) _ ?_
                      by_cases hc448 : (1114111 : Int32) < q4
                      · skip
                        rw [if_pos hc448] at hvd
                        show Steps p.tables e below (T7.setTop (mkF m 448 #[.val (.int xb), .val (.int xf), .val (.int xt), .val (.ref ba), .val (.int fv), .val (.int tv), .val (.int (own_res ef tv 5 fv)), .val (.int lv), .val (.int (4 : Int32)), .val (.int q4), .val (.int (65536 : Int32)), .val (.int k3), .val (.int c3)] [(.int (1114111 : Int32)), (.int q4)])) tgt
                        refine XS.icmpYes X7.here hx rfl (pc0 := 448) (pc' := 469) rfl (hb hby at_448) rfl (tlt hc448).2.2.1 (by decide) (by decide) ?_
                        show Steps p.tables e below (T7.setTop (mkF m 469 #[.val (.int xb), .val (.int xf), .val (.int xt), .val (.ref ba), .val (.int fv), .val (.int tv), .val (.int (own_res ef tv 5 fv)), .val (.int lv), .val (.int (4 : Int32)), .val (.int q4), .val (.int (65536 : Int32)), .val (.int k3), .val (.int c3)] [])) tgt
                        refine XS.iconst X7.here hx rfl (hb hby at_469) ?_
                        rw [hvd] at k
                        exact k
                      · skip
                        rw [if_neg hc448] at hvd
                        show Steps p.tables e below (T7.setTop (mkF m 448 #[.val (.int xb), .val (.int xf), .val (.int xt), .val (.ref ba), .val (.int fv), .val (.int tv), .val (.int (own_res ef tv 5 fv)), .val (.int lv), .val (.int (4 : Int32)), .val (.int q4), .val (.int (65536 : Int32)), .val (.int k3), .val (.int c3)] [(.int (1114111 : Int32)), (.int q4)])) tgt
                        refine XS.icmpNo X7.here hx rfl (hb hby at_448) rfl (flt hc448).2.2.1 ?_
                        show Steps p.tables e below (T7.setTop (mkF m 451 #[.val (.int xb), .val (.int xf), .val (.int xt), .val (.ref ba), .val (.int fv), .val (.int tv), .val (.int (own_res ef tv 5 fv)), .val (.int lv), .val (.int (4 : Int32)), .val (.int q4), .val (.int (65536 : Int32)), .val (.int k3), .val (.int c3)] [])) tgt
                        refine XS.iload X7.here hx rfl (hb hby at_451) rfl ?_
                        show Steps p.tables e below (T7.setTop (mkF m 453 #[.val (.int xb), .val (.int xf), .val (.int xt), .val (.ref ba), .val (.int fv), .val (.int tv), .val (.int (own_res ef tv 5 fv)), .val (.int lv), .val (.int (4 : Int32)), .val (.int q4), .val (.int (65536 : Int32)), .val (.int k3), .val (.int c3)] [(.int q4)])) tgt
                        refine X7.ldcInt hx hown (mvT hZ (hw _ (List.mem_of_getElem? (i := 7) rfl))) (g := (mkF m 453 #[.val (.int xb), .val (.int xf), .val (.int xt), .val (.ref ba), .val (.int fv), .val (.int tv), .val (.int (own_res ef tv 5 fv)), .val (.int lv), .val (.int (4 : Int32)), .val (.int q4), .val (.int (65536 : Int32)), .val (.int k3), .val (.int c3)] [(.int q4)])) rfl (hb hby at_453) _ ?_
                        by_cases hc455 : q4 < (55296 : Int32)
                        · skip
                          rw [if_pos hc455] at hvd
                          show Steps p.tables e below (T7.setTop (mkF m 455 #[.val (.int xb), .val (.int xf), .val (.int xt), .val (.ref ba), .val (.int fv), .val (.int tv), .val (.int (own_res ef tv 5 fv)), .val (.int lv), .val (.int (4 : Int32)), .val (.int q4), .val (.int (65536 : Int32)), .val (.int k3), .val (.int c3)] [(.int (55296 : Int32)), (.int q4)])) tgt
                          refine XS.icmpYes X7.here hx rfl (pc0 := 455) (pc' := 465) rfl (hb hby at_455) rfl (tlt hc455).1 (by decide) (by decide) ?_
                          show Steps p.tables e below (T7.setTop (mkF m 465 #[.val (.int xb), .val (.int xf), .val (.int xt), .val (.ref ba), .val (.int fv), .val (.int tv), .val (.int (own_res ef tv 5 fv)), .val (.int lv), .val (.int (4 : Int32)), .val (.int q4), .val (.int (65536 : Int32)), .val (.int k3), .val (.int c3)] [])) tgt
                          refine XS.iconst X7.here hx rfl (hb hby at_465) ?_
                          show Steps p.tables e below (T7.setTop (mkF m 466 #[.val (.int xb), .val (.int xf), .val (.int xt), .val (.ref ba), .val (.int fv), .val (.int tv), .val (.int (own_res ef tv 5 fv)), .val (.int lv), .val (.int (4 : Int32)), .val (.int q4), .val (.int (65536 : Int32)), .val (.int k3), .val (.int c3)] [(.int (1 : Int32))])) tgt
                          refine XS.goto X7.here hx rfl (pc0 := 466) (pc' := 470) rfl (hb hby at_466) (by decide) (by decide) ?_
                          rw [hvd] at k
                          exact k
                        · skip
                          rw [if_neg hc455] at hvd
                          show Steps p.tables e below (T7.setTop (mkF m 455 #[.val (.int xb), .val (.int xf), .val (.int xt), .val (.ref ba), .val (.int fv), .val (.int tv), .val (.int (own_res ef tv 5 fv)), .val (.int lv), .val (.int (4 : Int32)), .val (.int q4), .val (.int (65536 : Int32)), .val (.int k3), .val (.int c3)] [(.int (55296 : Int32)), (.int q4)])) tgt
                          refine XS.icmpNo X7.here hx rfl (hb hby at_455) rfl (flt hc455).1 ?_
                          show Steps p.tables e below (T7.setTop (mkF m 458 #[.val (.int xb), .val (.int xf), .val (.int xt), .val (.ref ba), .val (.int fv), .val (.int tv), .val (.int (own_res ef tv 5 fv)), .val (.int lv), .val (.int (4 : Int32)), .val (.int q4), .val (.int (65536 : Int32)), .val (.int k3), .val (.int c3)] [])) tgt
                          refine XS.iload X7.here hx rfl (hb hby at_458) rfl ?_
                          show Steps p.tables e below (T7.setTop (mkF m 460 #[.val (.int xb), .val (.int xf), .val (.int xt), .val (.ref ba), .val (.int fv), .val (.int tv), .val (.int (own_res ef tv 5 fv)), .val (.int lv), .val (.int (4 : Int32)), .val (.int q4), .val (.int (65536 : Int32)), .val (.int k3), .val (.int c3)] [(.int q4)])) tgt
                          refine X7.ldcInt hx hown (mvT hZ (hw _ (List.mem_of_getElem? (i := 9) rfl))) (g := (mkF m 460 #[.val (.int xb), .val (.int xf), .val (.int xt), .val (.ref ba), .val (.int fv), .val (.int tv), .val (.int (own_res ef tv 5 fv)), .val (.int lv), .val (.int (4 : Int32)), .val (.int q4), .val (.int (65536 : Int32)), .val (.int k3), .val (.int c3)] [(.int q4)])) rfl (hb hby at_460) _ ?_
                          by_cases hc462 : (57343 : Int32) < q4
                          · skip
                            rw [if_pos hc462] at hvd
                            show Steps p.tables e below (T7.setTop (mkF m 462 #[.val (.int xb), .val (.int xf), .val (.int xt), .val (.ref ba), .val (.int fv), .val (.int tv), .val (.int (own_res ef tv 5 fv)), .val (.int lv), .val (.int (4 : Int32)), .val (.int q4), .val (.int (65536 : Int32)), .val (.int k3), .val (.int c3)] [(.int (57343 : Int32)), (.int q4)])) tgt
                            refine XS.icmpNo X7.here hx rfl (hb hby at_462) rfl (tlt hc462).2.2.2 ?_
                            show Steps p.tables e below (T7.setTop (mkF m 465 #[.val (.int xb), .val (.int xf), .val (.int xt), .val (.ref ba), .val (.int fv), .val (.int tv), .val (.int (own_res ef tv 5 fv)), .val (.int lv), .val (.int (4 : Int32)), .val (.int q4), .val (.int (65536 : Int32)), .val (.int k3), .val (.int c3)] [])) tgt
                            refine XS.iconst X7.here hx rfl (hb hby at_465) ?_
                            show Steps p.tables e below (T7.setTop (mkF m 466 #[.val (.int xb), .val (.int xf), .val (.int xt), .val (.ref ba), .val (.int fv), .val (.int tv), .val (.int (own_res ef tv 5 fv)), .val (.int lv), .val (.int (4 : Int32)), .val (.int q4), .val (.int (65536 : Int32)), .val (.int k3), .val (.int c3)] [(.int (1 : Int32))])) tgt
                            refine XS.goto X7.here hx rfl (pc0 := 466) (pc' := 470) rfl (hb hby at_466) (by decide) (by decide) ?_
                            rw [hvd] at k
                            exact k
                          · skip
                            rw [if_neg hc462] at hvd
                            show Steps p.tables e below (T7.setTop (mkF m 462 #[.val (.int xb), .val (.int xf), .val (.int xt), .val (.ref ba), .val (.int fv), .val (.int tv), .val (.int (own_res ef tv 5 fv)), .val (.int lv), .val (.int (4 : Int32)), .val (.int q4), .val (.int (65536 : Int32)), .val (.int k3), .val (.int c3)] [(.int (57343 : Int32)), (.int q4)])) tgt
                            refine XS.icmpYes X7.here hx rfl (pc0 := 462) (pc' := 469) rfl (hb hby at_462) rfl (flt hc462).2.2.2 (by decide) (by decide) ?_
                            show Steps p.tables e below (T7.setTop (mkF m 469 #[.val (.int xb), .val (.int xf), .val (.int xt), .val (.ref ba), .val (.int fv), .val (.int tv), .val (.int (own_res ef tv 5 fv)), .val (.int lv), .val (.int (4 : Int32)), .val (.int q4), .val (.int (65536 : Int32)), .val (.int k3), .val (.int c3)] [])) tgt
                            refine XS.iconst X7.here hx rfl (hb hby at_469) ?_
                            rw [hvd] at k
                            exact k
                refine own_st (V := T7.setTop (mkF m 474 #[.val (.int xb), .val (.int xf), .val (.int xt), .val (.ref ba), .val (.int fv), .val (.int tv), .val (.int (own_res ef tv 5 fv)), .val (.int lv), .val (.int (4 : Int32)), .val (.int q4), .val (.int (65536 : Int32)), .val (.int k3), .val (.int vd)] [(.int vd)])) (fun tgt k => ?_) ?_
                · show Steps p.tables e below (T7.setTop (mkF m 470 #[.val (.int xb), .val (.int xf), .val (.int xt), .val (.ref ba), .val (.int fv), .val (.int tv), .val (.int (own_res ef tv 5 fv)), .val (.int lv), .val (.int (4 : Int32)), .val (.int q4), .val (.int (65536 : Int32)), .val (.int k3), .val (.int c3)] [(.int vd)])) tgt
                  refine XS.istore X7.here hx rfl (hb hby at_470) rfl (l' := #[.val (.int xb), .val (.int xf), .val (.int xt), .val (.ref ba), .val (.int fv), .val (.int tv), .val (.int (own_res ef tv 5 fv)), .val (.int lv), .val (.int (4 : Int32)), .val (.int q4), .val (.int (65536 : Int32)), .val (.int k3), .val (.int vd)]) rfl ?_
                  show Steps p.tables e below (T7.setTop (mkF m 472 #[.val (.int xb), .val (.int xf), .val (.int xt), .val (.ref ba), .val (.int fv), .val (.int tv), .val (.int (own_res ef tv 5 fv)), .val (.int lv), .val (.int (4 : Int32)), .val (.int q4), .val (.int (65536 : Int32)), .val (.int k3), .val (.int vd)] [])) tgt
                  refine XS.iload X7.here hx rfl (hb hby at_472) rfl ?_
                  exact k
                by_cases hc474 : vd = (0 : Int32)
                · skip
                  refine own_st (V := T7.setTop (mkF m 489 #[.val (.int xb), .val (.int xf), .val (.int xt), .val (.ref ba), .val (.int fv), .val (.int tv), .val (.int (own_res ef tv 5 fv)), .val (.int lv), .val (.int (4 : Int32)), .val (.int q4), .val (.int (65536 : Int32)), .val (.int k3), .val (.int vd)] [(.int (1 : Int32))])) (fun tgt k => ?_) ?_
                  · show Steps p.tables e below (T7.setTop (mkF m 474 #[.val (.int xb), .val (.int xf), .val (.int xt), .val (.ref ba), .val (.int fv), .val (.int tv), .val (.int (own_res ef tv 5 fv)), .val (.int lv), .val (.int (4 : Int32)), .val (.int q4), .val (.int (65536 : Int32)), .val (.int k3), .val (.int vd)] [(.int vd)])) tgt
                    refine XS.ifNo X7.here hx rfl (hb hby at_474) rfl ((if0 _ _).trans (teq hc474).2) ?_
                    show Steps p.tables e below (T7.setTop (mkF m 477 #[.val (.int xb), .val (.int xf), .val (.int xt), .val (.ref ba), .val (.int fv), .val (.int tv), .val (.int (own_res ef tv 5 fv)), .val (.int lv), .val (.int (4 : Int32)), .val (.int q4), .val (.int (65536 : Int32)), .val (.int k3), .val (.int vd)] [])) tgt
                    refine XS.iload X7.here hx rfl (hb hby at_477) rfl ?_
                    show Steps p.tables e below (T7.setTop (mkF m 479 #[.val (.int xb), .val (.int xf), .val (.int xt), .val (.ref ba), .val (.int fv), .val (.int tv), .val (.int (own_res ef tv 5 fv)), .val (.int lv), .val (.int (4 : Int32)), .val (.int q4), .val (.int (65536 : Int32)), .val (.int k3), .val (.int vd)] [(.int (own_res ef tv 5 fv))])) tgt
                    refine XS.iload X7.here hx rfl (hb hby at_479) rfl ?_
                    show Steps p.tables e below (T7.setTop (mkF m 481 #[.val (.int xb), .val (.int xf), .val (.int xt), .val (.ref ba), .val (.int fv), .val (.int tv), .val (.int (own_res ef tv 5 fv)), .val (.int lv), .val (.int (4 : Int32)), .val (.int q4), .val (.int (65536 : Int32)), .val (.int k3), .val (.int vd)] [(.int fv), (.int (own_res ef tv 5 fv))])) tgt
                    refine XS.icmpNo X7.here hx rfl (hb hby at_481) rfl (teq (own_bad hlt (by unfold own_S; rw [← hlv, ← hc1, ← hc2, ← hc3]; exact (own_v4 hl0 hr1 hr2 hr3 hc141 hc155 hc179 hk1 hk2 hk3 hq2 hq3 hq4 hvd).1 hc474))).2 ?_
                    show Steps p.tables e below (T7.setTop (mkF m 484 #[.val (.int xb), .val (.int xf), .val (.int xt), .val (.ref ba), .val (.int fv), .val (.int tv), .val (.int (own_res ef tv 5 fv)), .val (.int lv), .val (.int (4 : Int32)), .val (.int q4), .val (.int (65536 : Int32)), .val (.int k3), .val (.int vd)] [])) tgt
                    refine XS.iconst X7.here hx rfl (hb hby at_484) ?_
                    show Steps p.tables e below (T7.setTop (mkF m 485 #[.val (.int xb), .val (.int xf), .val (.int xt), .val (.ref ba), .val (.int fv), .val (.int tv), .val (.int (own_res ef tv 5 fv)), .val (.int lv), .val (.int (4 : Int32)), .val (.int q4), .val (.int (65536 : Int32)), .val (.int k3), .val (.int vd)] [(.int (1 : Int32))])) tgt
                    refine XS.goto X7.here hx rfl (pc0 := 485) (pc' := 489) rfl (hb hby at_485) (by decide) (by decide) ?_
                    exact k
                  refine own_retN X7 hx hlk (t := .boolean) (z' := (1 : Int32)) Bd.returns (by simp) rfl (hb hby at_489) ?_ (by decide) (by decide)
                  show Q0 Z xb xf xt h0 n0 (some (.int (1 : Int32))) T7.heap _
                  rw [K7]
                  exact ⟨rfl, N7⟩
                · skip
                  refine own_st (V := T7.setTop (mkF m 500 #[.val (.int xb), .val (.int xf), .val (.int xt), .val (.ref ba), .val (.int fv), .val (.int tv), .val (.int (own_res ef tv 5 fv)), .val (.int lv), .val (.int (4 : Int32)), .val (.int q4), .val (.int (65536 : Int32)), .val (.int k3), .val (.int vd)] [(.int tv), (.int (fv + (4 : Int32))), (.ref ba), (.int (own_res ef tv 5 fv))])) (fun tgt k => ?_) ?_
                  · show Steps p.tables e below (T7.setTop (mkF m 474 #[.val (.int xb), .val (.int xf), .val (.int xt), .val (.ref ba), .val (.int fv), .val (.int tv), .val (.int (own_res ef tv 5 fv)), .val (.int lv), .val (.int (4 : Int32)), .val (.int q4), .val (.int (65536 : Int32)), .val (.int k3), .val (.int vd)] [(.int vd)])) tgt
                    refine XS.ifYes X7.here hx rfl (pc0 := 474) (pc' := 490) rfl (hb hby at_474) rfl ((if0 _ _).trans (feq hc474).2) (by decide) (by decide) ?_
                    show Steps p.tables e below (T7.setTop (mkF m 490 #[.val (.int xb), .val (.int xf), .val (.int xt), .val (.ref ba), .val (.int fv), .val (.int tv), .val (.int (own_res ef tv 5 fv)), .val (.int lv), .val (.int (4 : Int32)), .val (.int q4), .val (.int (65536 : Int32)), .val (.int k3), .val (.int vd)] [])) tgt
                    refine XS.iload X7.here hx rfl (hb hby at_490) rfl ?_
                    show Steps p.tables e below (T7.setTop (mkF m 492 #[.val (.int xb), .val (.int xf), .val (.int xt), .val (.ref ba), .val (.int fv), .val (.int tv), .val (.int (own_res ef tv 5 fv)), .val (.int lv), .val (.int (4 : Int32)), .val (.int q4), .val (.int (65536 : Int32)), .val (.int k3), .val (.int vd)] [(.int (own_res ef tv 5 fv))])) tgt
                    refine XS.aloadN X7.here hx rfl (hb hby at_492) rfl rfl ?_
                    show Steps p.tables e below (T7.setTop (mkF m 493 #[.val (.int xb), .val (.int xf), .val (.int xt), .val (.ref ba), .val (.int fv), .val (.int tv), .val (.int (own_res ef tv 5 fv)), .val (.int lv), .val (.int (4 : Int32)), .val (.int q4), .val (.int (65536 : Int32)), .val (.int k3), .val (.int vd)] [(.ref ba), (.int (own_res ef tv 5 fv))])) tgt
                    refine XS.iload X7.here hx rfl (hb hby at_493) rfl ?_
                    show Steps p.tables e below (T7.setTop (mkF m 495 #[.val (.int xb), .val (.int xf), .val (.int xt), .val (.ref ba), .val (.int fv), .val (.int tv), .val (.int (own_res ef tv 5 fv)), .val (.int lv), .val (.int (4 : Int32)), .val (.int q4), .val (.int (65536 : Int32)), .val (.int k3), .val (.int vd)] [(.int fv), (.ref ba), (.int (own_res ef tv 5 fv))])) tgt
                    refine XS.iload X7.here hx rfl (hb hby at_495) rfl ?_
                    show Steps p.tables e below (T7.setTop (mkF m 497 #[.val (.int xb), .val (.int xf), .val (.int xt), .val (.ref ba), .val (.int fv), .val (.int tv), .val (.int (own_res ef tv 5 fv)), .val (.int lv), .val (.int (4 : Int32)), .val (.int q4), .val (.int (65536 : Int32)), .val (.int k3), .val (.int vd)] [(.int (4 : Int32)), (.int fv), (.ref ba), (.int (own_res ef tv 5 fv))])) tgt
                    refine XS.iadd X7.here hx rfl (hb hby at_497) rfl ?_
                    show Steps p.tables e below (T7.setTop (mkF m 498 #[.val (.int xb), .val (.int xf), .val (.int xt), .val (.ref ba), .val (.int fv), .val (.int tv), .val (.int (own_res ef tv 5 fv)), .val (.int lv), .val (.int (4 : Int32)), .val (.int q4), .val (.int (65536 : Int32)), .val (.int k3), .val (.int vd)] [(.int (fv + (4 : Int32))), (.ref ba), (.int (own_res ef tv 5 fv))])) tgt
                    refine XS.iload X7.here hx rfl (hb hby at_498) rfl ?_
                    exact k
                  obtain ⟨v23, _, ⟨T23, L23, k23, n23⟩, -, Xc23, ⟨Lc23, hQ23, l23, y23, z23⟩, st23⟩ := Jvm.LawKit.callS X7 hx (y := (⟨"com/example/vestwright/vestwright/input/Utf8", "firstNotUtf8", "([BII)I"⟩ : MethodName)) hown (mvT hZ (hw _ (List.mem_of_getElem? (i := 2) rfl))) (mvT hZ (hw _ (List.mem_of_getElem? (i := 3) rfl))) (mvT hZ (hw _ (List.mem_of_getElem? (i := 4) rfl))) (mvT hZ (hw _ (List.mem_of_getElem? (i := 5) rfl))) (by decide) (backOf (W := 1) (rm1 l Z a0 hw [] ba (fv + (4 : Int32)) tv ef 4 h5 n0 Zs5 Ag_ba_6 (by rw [a4]; omega) (by rw [a4]; omega) ht0.2 (by rw [a4]; omega)) hZ (hw _ (List.mem_of_getElem? (i := 5) rfl)) (hw _ (List.mem_of_getElem? (i := 4) rfl)) (by decide) (by decide)) (g := (mkF m 500 #[.val (.int xb), .val (.int xf), .val (.int xt), .val (.ref ba), .val (.int fv), .val (.int tv), .val (.int (own_res ef tv 5 fv)), .val (.int lv), .val (.int (4 : Int32)), .val (.int q4), .val (.int (65536 : Int32)), .val (.int k3), .val (.int vd)] [(.int tv), (.int (fv + (4 : Int32))), (.ref ba), (.int (own_res ef tv 5 fv))])) rfl (by rw [hml]; rfl) (argsL := [(.ref ba), (.int (fv + (4 : Int32))), (.int tv)]) (rest := [(.int (own_res ef tv 5 fv))]) (lenOf pd_0_0 rfl) rfl (by show 2 * 0 + _ ≤ _; exact Nat.le_of_eq rfl) (hb hby at_500) (fun _ _ => ⟨rfl, K7, (by decide : 1 + 0 ≤ _), (by decide : 4 + 0 ≤ _)⟩)
                  dsimp only [Pt.U, Pt.locs, Pt.cells, Pt.slots] at Xc23 l23 y23 z23 st23 hQ23
                  have X23 := own_cast Xc23 l23 y23 z23
                  obtain ⟨ev23, N23q, K23⟩ := hQ23
                  rw [ev23] at st23
                  have N23 := Fr.app N7 N23q
                  refine own_st st23 ?_
                  show own_Go p e below _ (T23.setTop (mkF m 503 #[.val (.int xb), .val (.int xf), .val (.int xt), .val (.ref ba), .val (.int fv), .val (.int tv), .val (.int (own_res ef tv 5 fv)), .val (.int lv), .val (.int (4 : Int32)), .val (.int q4), .val (.int (65536 : Int32)), .val (.int k3), .val (.int vd)] [(.int (own_res ef tv 4 (fv + (4 : Int32)))), (.int (own_res ef tv 5 fv))]))
                  refine own_st (V := T23.setTop (mkF m 511 #[.val (.int xb), .val (.int xf), .val (.int xt), .val (.ref ba), .val (.int fv), .val (.int tv), .val (.int (own_res ef tv 5 fv)), .val (.int lv), .val (.int (4 : Int32)), .val (.int q4), .val (.int (65536 : Int32)), .val (.int k3), .val (.int vd)] [(.int (1 : Int32))])) (fun tgt k => ?_) ?_
                  · show Steps p.tables e below (T23.setTop (mkF m 503 #[.val (.int xb), .val (.int xf), .val (.int xt), .val (.ref ba), .val (.int fv), .val (.int tv), .val (.int (own_res ef tv 5 fv)), .val (.int lv), .val (.int (4 : Int32)), .val (.int q4), .val (.int (65536 : Int32)), .val (.int k3), .val (.int vd)] [(.int (own_res ef tv 4 (fv + (4 : Int32)))), (.int (own_res ef tv 5 fv))])) tgt
                    refine XS.icmpNo X23.here hx rfl (hb hby at_503) rfl (teq (own_good hlt (by unfold own_S; rw [← hlv, ← hc1, ← hc2, ← hc3]; exact (own_v4 hl0 hr1 hr2 hr3 hc141 hc155 hc179 hk1 hk2 hk3 hq2 hq3 hq4 hvd).2 hc474) (by decide))).2 ?_
                    show Steps p.tables e below (T23.setTop (mkF m 506 #[.val (.int xb), .val (.int xf), .val (.int xt), .val (.ref ba), .val (.int fv), .val (.int tv), .val (.int (own_res ef tv 5 fv)), .val (.int lv), .val (.int (4 : Int32)), .val (.int q4), .val (.int (65536 : Int32)), .val (.int k3), .val (.int vd)] [])) tgt
                    refine XS.iconst X23.here hx rfl (hb hby at_506) ?_
                    show Steps p.tables e below (T23.setTop (mkF m 507 #[.val (.int xb), .val (.int xf), .val (.int xt), .val (.ref ba), .val (.int fv), .val (.int tv), .val (.int (own_res ef tv 5 fv)), .val (.int lv), .val (.int (4 : Int32)), .val (.int q4), .val (.int (65536 : Int32)), .val (.int k3), .val (.int vd)] [(.int (1 : Int32))])) tgt
                    refine XS.goto X23.here hx rfl (pc0 := 507) (pc' := 511) rfl (hb hby at_507) (by decide) (by decide) ?_
                    exact k
                  refine own_retN X23 hx hlk (t := .boolean) (z' := (1 : Int32)) Bd.returns (by simp) rfl (hb hby at_511) ?_ (by decide) (by decide)
                  show Q0 Z xb xf xt h0 n0 (some (.int (1 : Int32))) T23.heap _
                  rw [K23]
                  exact ⟨rfl, N23⟩
            · skip
              refine own_st (V := T7.setTop (mkF m 194 #[.val (.int xb), .val (.int xf), .val (.int xt), .val (.ref ba), .val (.int fv), .val (.int tv), .val (.int (own_res ef tv 5 fv)), .val (.int lv), .val (.int (0 : Int32)), .unset, .unset, .unset, .unset] [(.int (1 : Int32))])) (fun tgt k => ?_) ?_
              · show Steps p.tables e below (T7.setTop (mkF m 155 #[.val (.int xb), .val (.int xf), .val (.int xt), .val (.ref ba), .val (.int fv), .val (.int tv), .val (.int (own_res ef tv 5 fv)), .val (.int lv), .unset, .unset, .unset, .unset, .unset] [(.int (248 : Int32)), (.int lv)])) tgt
                refine XS.icmpYes X7.here hx rfl (pc0 := 155) (pc' := 164) rfl (hb hby at_155) rfl (flt hc155).2.1 (by decide) (by decide) ?_
                show Steps p.tables e below (T7.setTop (mkF m 164 #[.val (.int xb), .val (.int xf), .val (.int xt), .val (.ref ba), .val (.int fv), .val (.int tv), .val (.int (own_res ef tv 5 fv)), .val (.int lv), .unset, .unset, .unset, .unset, .unset] [])) tgt
                refine XS.iconst X7.here hx rfl (hb hby at_164) ?_
                show Steps p.tables e below (T7.setTop (mkF m 165 #[.val (.int xb), .val (.int xf), .val (.int xt), .val (.ref ba), .val (.int fv), .val (.int tv), .val (.int (own_res ef tv 5 fv)), .val (.int lv), .unset, .unset, .unset, .unset, .unset] [(.int (0 : Int32))])) tgt
                refine XS.istore X7.here hx rfl (hb hby at_165) rfl (l' := #[.val (.int xb), .val (.int xf), .val (.int xt), .val (.ref ba), .val (.int fv), .val (.int tv), .val (.int (own_res ef tv 5 fv)), .val (.int lv), .val (.int (0 : Int32)), .unset, .unset, .unset, .unset]) rfl ?_
                show Steps p.tables e below (T7.setTop (mkF m 167 #[.val (.int xb), .val (.int xf), .val (.int xt), .val (.ref ba), .val (.int fv), .val (.int tv), .val (.int (own_res ef tv 5 fv)), .val (.int lv), .val (.int (0 : Int32)), .unset, .unset, .unset, .unset] [])) tgt
                refine XS.iload X7.here hx rfl (hb hby at_167) rfl ?_
                show Steps p.tables e below (T7.setTop (mkF m 169 #[.val (.int xb), .val (.int xf), .val (.int xt), .val (.ref ba), .val (.int fv), .val (.int tv), .val (.int (own_res ef tv 5 fv)), .val (.int lv), .val (.int (0 : Int32)), .unset, .unset, .unset, .unset] [(.int (0 : Int32))])) tgt
                refine XS.ifYes X7.here hx rfl (pc0 := 169) (pc' := 182) rfl (hb hby at_169) rfl ((if0 _ _).trans (teq (by decide : (0 : Int32) = (0 : Int32))).1) (by decide) (by decide) ?_
                show Steps p.tables e below (T7.setTop (mkF m 182 #[.val (.int xb), .val (.int xf), .val (.int xt), .val (.ref ba), .val (.int fv), .val (.int tv), .val (.int (own_res ef tv 5 fv)), .val (.int lv), .val (.int (0 : Int32)), .unset, .unset, .unset, .unset] [])) tgt
                refine XS.iload X7.here hx rfl (hb hby at_182) rfl ?_
                show Steps p.tables e below (T7.setTop (mkF m 184 #[.val (.int xb), .val (.int xf), .val (.int xt), .val (.ref ba), .val (.int fv), .val (.int tv), .val (.int (own_res ef tv 5 fv)), .val (.int lv), .val (.int (0 : Int32)), .unset, .unset, .unset, .unset] [(.int (own_res ef tv 5 fv))])) tgt
                refine XS.iload X7.here hx rfl (hb hby at_184) rfl ?_
                show Steps p.tables e below (T7.setTop (mkF m 186 #[.val (.int xb), .val (.int xf), .val (.int xt), .val (.ref ba), .val (.int fv), .val (.int tv), .val (.int (own_res ef tv 5 fv)), .val (.int lv), .val (.int (0 : Int32)), .unset, .unset, .unset, .unset] [(.int fv), (.int (own_res ef tv 5 fv))])) tgt
                refine XS.icmpNo X7.here hx rfl (hb hby at_186) rfl (teq (own_bad hlt (by unfold own_S; rw [← hlv]; exact own_s0b hc155))).2 ?_
                show Steps p.tables e below (T7.setTop (mkF m 189 #[.val (.int xb), .val (.int xf), .val (.int xt), .val (.ref ba), .val (.int fv), .val (.int tv), .val (.int (own_res ef tv 5 fv)), .val (.int lv), .val (.int (0 : Int32)), .unset, .unset, .unset, .unset] [])) tgt
                refine XS.iconst X7.here hx rfl (hb hby at_189) ?_
                show Steps p.tables e below (T7.setTop (mkF m 190 #[.val (.int xb), .val (.int xf), .val (.int xt), .val (.ref ba), .val (.int fv), .val (.int tv), .val (.int (own_res ef tv 5 fv)), .val (.int lv), .val (.int (0 : Int32)), .unset, .unset, .unset, .unset] [(.int (1 : Int32))])) tgt
                refine XS.goto X7.here hx rfl (pc0 := 190) (pc' := 194) rfl (hb hby at_190) (by decide) (by decide) ?_
                exact k
              refine own_retN X7 hx hlk (t := .boolean) (z' := (1 : Int32)) Bd.returns (by simp) rfl (hb hby at_194) ?_ (by decide) (by decide)
              show Q0 Z xb xf xt h0 n0 (some (.int (1 : Int32))) T7.heap _
              rw [K7]
              exact ⟨rfl, N7⟩
set_option maxRecDepth 65536 in
set_option maxHeartbeats 40000000 in
theorem comes_1 {Post : Tables → Env → Array Value → State → Outcome → State → Prop} (hpost : ∀ tb e args s v u, (limb_1_1.after args s (.returned v) u = true ∧ limb_1_2.after args s (.returned v) u = true ∧ True) → FrameEnd s (.returned v) u (Jvm.fieldLocs frame_1_writes args s ++ Jvm.arrayLocs frame_1_arrays args s ++ Jvm.staticLocs frame_1_statics s) 16 128 → Post tb e args s (.returned v) u) :
    ArmFor flags0 classFile x code maxLocals ret World_1 tables_1 room_1 Calls_1 rest_1 Pre_1 Post := by
  intro l hfl _ _ p e ha hc hk s m args below hf hA hF happ hP
  obtain ⟨hcalls, hrest, hpre⟩ := hP
  obtain ⟨-, -, -, hnamed, -, -, -, hat⟩ := (Spec.applies_iff hf).mp happ
  obtain ⟨hg, hn⟩ := and_e (Cond.before_iff.mp (show (Jvm.Cond.and given_1 narrow_1).before args s = true from hpre))
  obtain ⟨hcount, g0⟩ := and_e hg
  obtain ⟨a0, g1⟩ := and_e g0
  obtain ⟨a1, g2⟩ := and_e g1
  have a2 := g2
  obtain ⟨w0, w1, w2, rfl⟩ : ∃ w0 w1 w2 : Value, args = #[w0, w1, w2] := by
    have hs : args.size = 3 := by simpa [Cond.value, given_1] using hcount
    obtain ⟨L⟩ := args
    match L, hs with
    | [w0, w1, w2], _ => exact ⟨w0, w1, w2, rfl⟩
  have hw := fun d (hd : d ∈ tables_1) => atoms_spec (ws := Jvm.Cond.code x code maxLocals ret :: tables_1) hat d (List.mem_cons_of_mem _ hd)
  obtain ⟨i0, ei0⟩ := is_v a0
  obtain rfl : w0 = (.int i0) := Option.some.inj ei0
  obtain ⟨i1, ei1⟩ := is_v a1
  obtain rfl : w1 = (.int i1) := Option.some.inj ei1
  obtain ⟨i2, ei2⟩ := is_v a2
  obtain rfl : w2 = (.int i2) := Option.some.inj ei2
  obtain ⟨n, o, h1, h2, h3, _, L, rfl, ⟨rfl, N⟩, hq⟩ := rm0 l s _ hw tables_1 i0 i1 i2 s.heap s.heap.size (Nat.le_refl _) p e ha hc hk s m _ below hf ((Spec.applies_iff_loose hf).mp happ).1 ⟨rfl, State.Warmed39.refl s, rfl⟩ trivial
  refine ⟨n, _, h1, h2, h3, hpost _ _ _ _ _ _ ⟨Cond.after_iff.mpr rfl, Cond.after_iff.mpr (eq_i res_at (Term.int_eval (1)) rfl), trivial⟩ ⟨hq.1, hq.2.1, (hq.2.2.sift fun y hy => Or.inr (N y hy)).mono (by decide) (by decide)⟩⟩
theorem main_1_1 : Claimed_1_1 := comes_1 fun _ _ _ _ _ _ h hF => ⟨h.1, hF⟩
theorem main_1_2 : Claimed_1_2 := comes_1 fun _ _ _ _ _ _ h hF => ⟨h.2.1, hF⟩
end Jvm.Pilot.@@N@@
namespace Jvm.Pilot.@@N@@
open Jvm Jvm.ClassFile Sem Op Lib Jvm.Free Jvm.Stand Jvm.Pilot.@@N@@.Jvm.D
/-! MADE BY PROGRAM (witnessworld.py) out of the Statement's table words and the real class files: 9 classes; the members and pool entries that the words name. The judged class is class 1, her method 1. -/
namespace start1
open Jvm.ClassFile
def u (s : String) : CpInfo := .utf8 (stringToUtf16 s)
/-- a pool by its gaps: so many unusable entries, then the entry; so many at the end -/
def gap : Nat → List CpInfo → List CpInfo
  | 0, r => r
  | n + 1, r => .unusable :: gap n r
def poolList (es : List (Nat × CpInfo)) (last : Nat) : List CpInfo := es.foldr (fun e r => gap e.1 (e.2 :: r)) (gap last [])
def pool (es : List (Nat × CpInfo)) (last : Nat) : Array CpInfo := ⟨poolList es last⟩
def fileOf (pool : Array CpInfo) (this : Nat) (attrs : Array Attribute := #[]) (ms : Array MethodInfo := #[]) (fl : Nat := 33) (sup : Nat := 0) (ifs : Array Nat := #[]) (fds : Array FieldInfo := #[]) : ClassFile where
  minorVersion := 0
  majorVersion := 65
  constantPool := pool
  accessFlags := fl
  thisClass := this
  superClass := sup
  interfaces := ifs
  fields := fds
  methods := ms
  attributes := attrs
def plain (name : String) (sup : Option ClassId) : Class where
  name := name
  kind := .ordinary
  loader := none
  accessFlags := 33
  super := sup
  interfaces := #[]
  cf := none
  fields := #[]
  methods := #[]
  instanceTypes := #[]
  staticTypes := #[]
  resolved := #[]
  callSites := []
  init := .initialized
  statics := none
  mirror := none

def pool0 : Array CpInfo := pool [(5, u "<init>"), (0, u "()V"), (1, .class_ 10), (1, u "java/lang/Object")] 113

def k0m0 : Method := { name := "<init>", desc := "()V", sig := { parameters := [], returnType := none }, accessFlags := 1, code := none }
/-- java/lang/Object -/
def k0 : Class := { plain "java/lang/Object" none with
  accessFlags := 33
  interfaces := #[]
  cf := some (fileOf pool0 8 #[] #[{ accessFlags := 1, nameIndex := 5, descriptorIndex := 6, attributes := #[] }] 33 0 #[] #[])
  fields := #[]
  methods := #[k0m0]
  instanceTypes := #[]
  staticTypes := #[]
  resolved := Array.replicate 124 none
  statics := none }

def pool1 : Array CpInfo := pool [(2, .class_ 4), (1, u "java/lang/Object"), (0, u "<init>"), (0, u "()V"), (0, .integer 2147483647), (0, .methodref 9 10), (0, .class_ 11), (0, .nameAndType 12 13), (0, u "com/example/vestwright/vestwright/input/Utf8"), (0, u "firstNotUtf8"), (0, u "([BII)I"), (0, .integer 65536), (0, .integer 1114111), (0, .integer 55296), (0, .integer 57343), (0, .class_ 19), (0, u "com/example/vestwright/vestwright/input/Utf8FirstNotUtf8PinLaw"), (2, u "law"), (0, u "(III)Z")] 5

def k1m0 : Method := { name := "<init>", desc := "()V", sig := { parameters := [], returnType := none }, accessFlags := 2, code := none }
def k1c1 : Code := { maxStack := 4, maxLocals := 13, code := code, exceptionTable := #[], attributes := #[] }
def k1m1 : Method := { name := "law", desc := "(III)Z", sig := { parameters := [.int, .int, .int], returnType := some .boolean }, accessFlags := 9, code := some k1c1 }
/-- com/example/vestwright/vestwright/input/Utf8FirstNotUtf8PinLaw -/
def k1 : Class := { plain "com/example/vestwright/vestwright/input/Utf8FirstNotUtf8PinLaw" (some 0) with
  accessFlags := 49
  interfaces := #[]
  cf := some (fileOf pool1 18 #[] #[{ accessFlags := 2, nameIndex := 5, descriptorIndex := 6, attributes := #[] }, { accessFlags := 9, nameIndex := 22, descriptorIndex := 23, attributes := #[] }] 49 2 #[] #[])
  fields := #[]
  methods := #[k1m0, k1m1]
  instanceTypes := #[]
  staticTypes := #[]
  resolved := Array.replicate 29 none
  statics := none }

def pool2 : Array CpInfo := pool [(2, .class_ 4), (1, u "java/lang/Object"), (0, u "<init>"), (0, u "()V"), (21, .class_ 29), (0, u "com/example/vestwright/vestwright/input/Utf8"), (2, u "firstNotUtf8"), (0, u "([BII)I")] 5

def k2m0 : Method := { name := "<init>", desc := "()V", sig := { parameters := [], returnType := none }, accessFlags := 2, code := none }
def k2c1 : Code := { maxStack := 3, maxLocals := 12, code := prog_19_method_2_code, exceptionTable := #[], attributes := #[] }
def k2m1 : Method := { name := "firstNotUtf8", desc := "([BII)I", sig := { parameters := [(.array .byte), .int, .int], returnType := some .int }, accessFlags := 9, code := some k2c1 }
/-- com/example/vestwright/vestwright/input/Utf8 -/
def k2 : Class := { plain "com/example/vestwright/vestwright/input/Utf8" (some 0) with
  accessFlags := 33
  interfaces := #[]
  cf := some (fileOf pool2 28 #[] #[{ accessFlags := 2, nameIndex := 5, descriptorIndex := 6, attributes := #[] }, { accessFlags := 9, nameIndex := 32, descriptorIndex := 33, attributes := #[] }] 33 2 #[] #[])
  fields := #[]
  methods := #[k2m0, k2m1]
  instanceTypes := #[]
  staticTypes := #[]
  resolved := Array.replicate 39 none
  statics := none }

def pool3 : Array CpInfo := pool [(1, u "java/lang/Cloneable"), (0, .class_ 1), (0, u "java/lang/Object"), (0, .class_ 3)] 3

/-- java/lang/Cloneable -/
def k3 : Class := { plain "java/lang/Cloneable" (some 0) with
  accessFlags := 1537
  interfaces := #[]
  cf := some (fileOf pool3 2 #[] #[] 1537 4 #[] #[])
  fields := #[]
  methods := #[]
  instanceTypes := #[]
  staticTypes := #[]
  resolved := Array.replicate 8 none
  statics := none }

def pool4 : Array CpInfo := pool [(1, u "java/io/Serializable"), (0, .class_ 1), (0, u "java/lang/Object"), (0, .class_ 3)] 3

/-- java/io/Serializable -/
def k4 : Class := { plain "java/io/Serializable" (some 0) with
  accessFlags := 1537
  interfaces := #[]
  cf := some (fileOf pool4 2 #[] #[] 1537 4 #[] #[])
  fields := #[]
  methods := #[]
  instanceTypes := #[]
  staticTypes := #[]
  resolved := Array.replicate 8 none
  statics := none }

/-- the primitive byte -/
def k5 : Class := { plain "byte" none with kind := .primitive 'B', accessFlags := 0x411 }
/-- [B -/
def k6 : Class := { plain "[B" (some 0) with kind := .array 5 .byte, interfaces := #[3, 4], accessFlags := 1041 }

/-- the primitive int -/
def k7 : Class := { plain "int" none with kind := .primitive 'I', accessFlags := 0x411 }
/-- [I -/
def k8 : Class := { plain "[I" (some 0) with kind := .array 7 .int, interfaces := #[3, 4], accessFlags := 1041 }

def heap : Heap := #[]
def classes : Array Class := #[k0, k1, k2, k3, k4, k5, k6, k7, k8]
def interned : List (Array UInt16 × Addr) := []
def slotsUsed : Nat := 0
def theMethod : MethodId := ⟨1, 1⟩
def args0 : Array Value := #[.int 5, .int 3, .int 3]
def aboutOver (below : List Frame) : State where
  vm := { classes := classes, interned := interned.toArray }
  heap := heap
  slotsUsed := slotsUsed
  threads := #[{ frames := .invoking theMethod args0 :: below }]
def below0 : List Frame := [.native { method := ⟨0, 0⟩, args := #[] }]
def about1 : State := aboutOver below0
def p0 : Program := .bare "" "" ""
def e0 : Env := launch0.env 0 0 0
theorem w_frames : about1.frames = Frame.invoking theMethod args0 :: below0 := rfl
set_option maxRecDepth 65536 in
theorem w_args : argsFit about1.vm theMethod args0 = true := by decide +kernel
set_option maxRecDepth 65536 in
theorem w_heap : heapFits about1 = true := by decide +kernel
set_option maxRecDepth 65536 in
theorem w_runnable : about1.curStatus? = some .runnable := by decide +kernel
set_option maxRecDepth 65536 in
theorem w_alone : about1.alone = true := by decide +kernel
set_option maxRecDepth 65536 in
theorem w_named : about1.methodNamed? x = some theMethod := by decide +kernel
set_option maxRecDepth 65536 in
theorem w_hears : about1.hears theMethod below0 = true := by decide +kernel
set_option maxRecDepth 65536 in
theorem w_ripe : about1.ripe theMethod args0 below0 = true := by decide +kernel
theorem w_running : about1.status = .running := rfl
set_option maxRecDepth 65536 in
theorem w_room : about1.hasRoom e0.platform room_1 = true :=
  launch0.hasRoom_least _ room_1 (by decide +kernel) (by decide +kernel) (by decide +kernel) (by decide +kernel) (by decide +kernel) (by decide +kernel)
theorem allAtoms_all (ts : List Jvm.Cond) (a : Array Jvm.Value) (st : Jvm.State) : (allAtoms ts).before a st = ts.all (fun c => c.before a st) := by
  induction ts with
  | nil => rfl
  | cons c t ih =>
    show (Jvm.Cond.and c (allAtoms t)).before a st = _
    rw [Jvm.Cond.before_and, ih, List.all_cons]
def words1 : List Jvm.Cond := Jvm.Cond.code x code maxLocals ret :: tables_1
/-- a 'code' word, met by the world's own term for the bytes: nothing is compared byte by byte -/
theorem code_word {y : MethodName} {bytes : ByteArray} {mx : Nat} {rt : Option FieldType} {a : Array Value} {s : State} {m : MethodId} {meth : Method} {c : Code} (h1 : s.methodNamed? y = some m) (h2 : s.vm.method? m = some meth) (h3 : meth.code = some c) (h4 : c.code = bytes)
    (h5 : (c.maxLocals == mx && c.exceptionTable.isEmpty && decide (c.maxStack ≤ mostOperands) && decide (meth.sig.returnType = rt) && !meth.locks && decide (parseMethodDescriptor y.desc = some meth.sig)) = true) : (Jvm.Cond.code y bytes mx rt).before a s = true := by
  simp only [Bool.and_eq_true, beq_iff_eq, Bool.not_eq_true', decide_eq_true_eq] at h5
  obtain ⟨⟨⟨⟨⟨g1, g2⟩, g3⟩, g4⟩, g5⟩, g6⟩ := h5
  simp [Cond.before, Cond.holds, Cond.value, h1, h2, h3, h4, g1, g2, g3, g4, g5, g6]
def isCode : Jvm.Cond → Bool
  | .code _ _ _ _ => true
  | _ => false
theorem all_split {L : List Jvm.Cond} {P : Jvm.Cond → Bool} (h1 : L.all (fun c => isCode c || P c) = true) (h2 : ∀ c ∈ L.filter isCode, P c = true) : L.all P = true := by
  refine List.all_eq_true.mpr fun c hc => ?_
  have h := List.all_eq_true.mp h1 c hc
  rcases Bool.eq_false_or_eq_true (isCode c) with hi | hi
  · exact h2 c (List.mem_filter.mpr ⟨hc, hi⟩)
  · simpa [hi] using h
set_option maxRecDepth 65536 in
theorem w_c0 : (Jvm.Cond.code x code maxLocals ret).before args0 about1 = true := code_word (m := ⟨1, 1⟩) (meth := k1m1) (c := k1c1) (by decide +kernel) rfl rfl rfl (by decide +kernel)
set_option maxRecDepth 65536 in
theorem w_c1 : (Jvm.Cond.code ({ cls := "com/example/vestwright/vestwright/input/Utf8", name := "firstNotUtf8", desc := "([BII)I" } : Jvm.MethodName) prog_19_method_2_code (12 : Nat) (Option.some Jvm.ClassFile.FieldType.int)).before args0 about1 = true := code_word (m := ⟨2, 1⟩) (meth := k2m1) (c := k2c1) (by decide +kernel) rfl rfl rfl (by decide +kernel)
def codes1 : List Jvm.Cond := [Jvm.Cond.code x code maxLocals ret, Jvm.Cond.code ({ cls := "com/example/vestwright/vestwright/input/Utf8", name := "firstNotUtf8", desc := "([BII)I" } : Jvm.MethodName) prog_19_method_2_code (12 : Nat) (Option.some Jvm.ClassFile.FieldType.int)]
set_option maxRecDepth 65536 in
theorem codes_eq : words1.filter isCode = codes1 := rfl
theorem w_codes : ∀ c ∈ words1.filter isCode, c.before args0 about1 = true := by
  rw [codes_eq]
  intro c hc
  simp only [codes1, List.mem_cons, List.not_mem_nil, or_false] at hc
  rcases hc with rfl | rfl
  · exact w_c0
  · exact w_c1
set_option maxRecDepth 65536 in
theorem w_t1 : words1.all (fun c => isCode c || c.before args0 about1) = true := by decide +kernel
theorem w_tables : (allAtoms (Jvm.Cond.code x code maxLocals ret :: tables_1)).before args0 about1 = true := by
  rw [allAtoms_all]
  show words1.all (fun c => c.before args0 about1) = true
  refine all_split ?_ w_codes
  rw [w_t1]
set_option maxRecDepth 65536 in
theorem w_case : (Jvm.Cond.and given_1 narrow_1).before args0 about1 = true := by decide +kernel
theorem w_applies : (headSpec (Jvm.Cond.code x code maxLocals ret :: tables_1) room_1).applies x e0.platform about1 = true :=
  (Spec.applies_iff w_frames).mpr ⟨w_running, w_runnable, w_alone, w_named, w_hears, w_ripe, w_room, w_tables⟩
theorem atStart : AtStart classFile x code maxLocals ret World_1 tables_1 room_1 Calls_1 rest_1 Pre_1 launch0 p0 e0 about1 theMethod args0 below0 :=
  ⟨lists_1, trivial, launch0.admits_env _ _ _, launch0.least_env, fairChoices_fair.cas, fairChoices_fair.clock, w_frames, w_args, w_heap, w_applies, trivial, trivial, w_case⟩
end start1
theorem witness_1 : WitnessClaimed_1 := ⟨start1.p0, start1.e0, start1.about1, start1.theMethod, start1.args0, start1.below0, start1.atStart⟩
end Jvm.Pilot.@@N@@
