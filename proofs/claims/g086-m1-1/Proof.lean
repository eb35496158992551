import JvmDerived
import JvmDerived.Pilot.@@N@@Statement
import JvmDerived.Pilot.@@N@@Code
set_option linter.unusedVariables false
set_option linter.unusedSimpArgs false
namespace Jvm.RoadKit
open Sem ClassFile Op Lib Jvm.Stand Jvm.Free Jvm.LawKit
section Own
variable {p : Program} {l : Launch} {e : Env} {R : Room} {s : State} {m : MethodId} {args : Array Value} {below : List Frame} {meth : Method} {c : Code} {T : State} {locs : List Loc} {cells slots : Nat} {Z : State} {h h' : Heap} {a b : Addr}
/-- from the state U the method runs to its end, and what it leaves is as G says -/
def own_Go (p : Program) (e : Env) (below : List Frame) (G : Outcome → State → Prop) (U : State) : Prop := ∃ s₂ o, Steps p.tables e below U s₂ ∧ s₂.status = .running ∧ Ended s₂ below o ∧ G o s₂
def own_G (s : State) (Q : Option Value → Heap → List Loc → Prop) (C N : Nat) : Outcome → State → Prop := fun o U' => ∃ v L, o = .returned v ∧ Q v U'.heap L ∧ FrameEnd s o U' L C N
theorem own_st {G : Outcome → State → Prop} {U V : State} (hs : ∀ t, Steps p.tables e below V t → Steps p.tables e below U t) (k : own_Go p e below G V) : own_Go p e below G U := by
  obtain ⟨s₂, o, h1, h2⟩ := k
  exact ⟨s₂, o, hs _ h1, h2⟩
theorem own_retI (X : Stand p l e R s m args below meth c T locs cells slots) (hx : p.tables.exec = Jvm.exec) (hlocks : meth.locks = false) {pc : Nat} {Ls : Array Slot} {z : Int32} {rest : List Value} (hret : meth.sig.returnType = some .int) (hd : decode c.code pc = .ok (.ireturn, 1)) {Q : Option Value → Heap → List Loc → Prop} {C N : Nat}
    (hQ : Q (some (.int z)) T.heap locs) (hC : cells ≤ C) (hN : slots ≤ N) : own_Go p e below (own_G s Q C N) (T.setTop (mkF m pc Ls (.int z :: rest))) := by
  obtain ⟨fs, hr, hrun, hended, hW, hsame⟩ := X.leave (v := some (.int z)) (fun h => by rw [hret] at h; cases h)
  refine ⟨_, _, ?_, hrun, hended, _, _, rfl, hQ, ⟨_, rfl⟩, hW, hsame.mono hC hN⟩
  have hm' : T.vm.method? m = some meth := X.method'
  have hn : narrow .int (.int z) = .int z := rfl
  show Steps p.tables e below (T.setTop { method := m, pc := pc, locals := Ls, stack := _ :: rest, locked := none }) _
  jvm_step X.here [X.here.top, hx, hd, hm', hret, hn]
  first | (intro acts; rw [hr _ acts rfl rfl rfl]) | rw [hr _ _ rfl rfl rfl]
  exact Steps.refl _
theorem own_retN (X : Stand p l e R s m args below meth c T locs cells slots) (hx : p.tables.exec = Jvm.exec) (hlocks : meth.locks = false) {pc : Nat} {Ls : Array Slot} {z z' : Int32} {t : FieldType} {rest : List Value} (hret : meth.sig.returnType = some t) (ht : t = .boolean ∨ t = .byte ∨ t = .char ∨ t = .short) (hz : nar t z = z') (hd : decode c.code pc = .ok (.ireturn, 1)) {Q : Option Value → Heap → List Loc → Prop} {C N : Nat}
    (hQ : Q (some (.int z')) T.heap locs) (hC : cells ≤ C) (hN : slots ≤ N) : own_Go p e below (own_G s Q C N) (T.setTop (mkF m pc Ls (.int z :: rest))) := by
  subst hz
  obtain ⟨fs, hr, hrun, hended, hW, hsame⟩ := X.leave (v := some (.int (nar t z))) (fun h => by rw [hret] at h; cases h)
  exact ⟨_, _, retN X hx hret ht hd hr, hrun, hended, _, _, rfl, hQ, ⟨_, rfl⟩, hW, hsame.mono hC hN⟩
theorem own_retJ (X : Stand p l e R s m args below meth c T locs cells slots) (hx : p.tables.exec = Jvm.exec) (hlocks : meth.locks = false) {pc : Nat} {Ls : Array Slot} {z : Int64} (hret : meth.sig.returnType = some .long) (hd : decode c.code pc = .ok (.lreturn, 1)) {Q : Option Value → Heap → List Loc → Prop} {C N : Nat}
    (hQ : Q (some (.long z)) T.heap locs) (hC : cells ≤ C) (hN : slots ≤ N) : own_Go p e below (own_G s Q C N) (T.setTop (mkF m pc Ls [.long z])) := by
  obtain ⟨fs, hr, hrun, hended, hW, hsame⟩ := X.leave (v := some (.long z)) (fun h => by rw [hret] at h; cases h)
  exact ⟨_, _, X.lreturnOut hx hret hd hr, hrun, hended, _, _, rfl, hQ, ⟨_, rfl⟩, hW, hsame.mono hC hN⟩
theorem own_ret0 (X : Stand p l e R s m args below meth c T locs cells slots) (hx : p.tables.exec = Jvm.exec) (hlocks : meth.locks = false) {pc : Nat} {Ls : Array Slot} (hret : meth.sig.returnType = none) (hd : decode c.code pc = .ok (.return_, 1)) {Q : Option Value → Heap → List Loc → Prop} {C N : Nat}
    (hQ : Q none T.heap locs) (hC : cells ≤ C) (hN : slots ≤ N) : own_Go p e below (own_G s Q C N) (T.setTop (mkF m pc Ls [])) := by
  obtain ⟨fs, hr, hrun, hended, hW, hsame⟩ := X.leave (v := none) (fun _ => rfl)
  exact ⟨_, _, X.returnOut hx hret hd hr, hrun, hended, _, _, rfl, hQ, ⟨_, rfl⟩, hW, hsame.mono hC hN⟩
theorem own_z0 {i j : Nat} (q : i = 0) : i ≤ j := q ▸ Nat.zero_le j
/-! arrays of ints (or bytes), of longs: their length and their elements by a plain function -/
def own_Ai (Z : State) (h : Heap) (a : Addr) (ty : FieldType) (n : Nat) (f : Nat → Int32) : Prop := ∃ c : Cell, Arr Z h a c ty ∧ c.slots.size = n ∧ ∀ i, i < n → c.slots[i]? = some (.int (f i))
def own_Aj (Z : State) (h : Heap) (a : Addr) (ty : FieldType) (n : Nat) (f : Nat → Int64) : Prop := ∃ c : Cell, Arr Z h a c ty ∧ c.slots.size = n ∧ ∀ i, i < n → c.slots[i]? = some (.long (f i))
def own_up (f : Nat → Int32) (k : Nat) (x : Int32) : Nat → Int32 := fun i => if i = k then x else f i
def own_upJ (f : Nat → Int64) (k : Nat) (x : Int64) : Nat → Int64 := fun i => if i = k then x else f i
theorem own_up_at (f : Nat → Int32) (k : Nat) (x : Int32) (i : Nat) : own_up f k x i = if i = k then x else f i := rfl
theorem own_upJ_at (f : Nat → Int64) (k : Nat) (x : Int64) (i : Nat) : own_upJ f k x i = if i = k then x else f i := rfl
variable {ty : FieldType} {n : Nat} {f : Nat → Int32} {fj : Nat → Int64} {ws : List Addr} {sl : Nat} {v : Value}
theorem own_Ai.lt (F : own_Ai Z h a ty n f) : a < h.size := by obtain ⟨c, A, -⟩ := F; exact A.lt
theorem own_Aj.lt (F : own_Aj Z h a ty n fj) : a < h.size := by obtain ⟨c, A, -⟩ := F; exact A.lt
theorem own_Ai.ext (F : own_Ai Z h a ty n f) (E : Ext h h') : own_Ai Z h' a ty n f := by obtain ⟨c, A, r⟩ := F; exact ⟨c, A.ext E, r⟩
theorem own_Aj.ext (F : own_Aj Z h a ty n fj) (E : Ext h h') : own_Aj Z h' a ty n fj := by obtain ⟨c, A, r⟩ := F; exact ⟨c, A.ext E, r⟩
theorem own_Ai.other (F : own_Ai Z h b ty n f) (W : Wr h h' a sl v) (q : b ≠ a) : own_Ai Z h' b ty n f := by obtain ⟨c, A, r⟩ := F; exact ⟨c, A.other W q, r⟩
theorem own_Aj.other (F : own_Aj Z h b ty n fj) (W : Wr h h' a sl v) (q : b ≠ a) : own_Aj Z h' b ty n fj := by obtain ⟨c, A, r⟩ := F; exact ⟨c, A.other W q, r⟩
theorem own_Ai.keep (F : own_Ai Z h a ty n f) (K : Keep h h' ws) (q : a ∉ ws) : own_Ai Z h' a ty n f := by obtain ⟨c, A, r⟩ := F; exact ⟨c, ⟨K.2.1 a c A.1 q, A.2⟩, r⟩
theorem own_Aj.keep (F : own_Aj Z h a ty n fj) (K : Keep h h' ws) (q : a ∉ ws) : own_Aj Z h' a ty n fj := by obtain ⟨c, A, r⟩ := F; exact ⟨c, ⟨K.2.1 a c A.1 q, A.2⟩, r⟩
theorem own_Ai.neq {a0 : Array Value} {k : Nat} {C : String} (F : own_Ai Z h b ty n f) (E : Exa Z h a C) (wi : (Cond.instantiable C k).before a0 Z = true) : a ≠ b := by obtain ⟨c, A, -⟩ := F; exact ne_arr E wi A
theorem own_Aj.neq {a0 : Array Value} {k : Nat} {C : String} (F : own_Aj Z h b ty n fj) (E : Exa Z h a C) (wi : (Cond.instantiable C k).before a0 Z = true) : a ≠ b := by obtain ⟨c, A, -⟩ := F; exact ne_arr E wi A
theorem own_nat {j : Int32} {k : Nat} (hj : j.toInt = k) : j.toNatClampNeg = k := by simp only [Int32.toNatClampNeg, hj]; rfl
theorem own_in {j : Int32} {k n : Nat} (hj : j.toInt = k) (hk : k < n) : ¬ (j < 0 ∨ n ≤ j.toNatClampNeg) := by
  rw [own_nat hj, Int32.lt_iff_toInt_lt, hj, show (0 : Int32).toInt = 0 from rfl]; omega
theorem own_len {z : Int32} (hz : z.toInt = n) : n.toInt32 = z := by
  have := Int32.toInt_lt z
  exact Int32.toInt_inj.mp (by rw [Int32.toInt_ofNat_small (by omega), hz])
theorem own_iaload (X : Stand p l e R s m args below meth c T locs cells slots) (hx : p.tables.exec = Jvm.exec) (hZ : Z.Warmed39 s.vm) (eT : T.heap = h) (A : own_Ai Z h a .int n f) {j : Int32} {k : Nat} (hj : j.toInt = k) (hk : k < n) {g : JFrame} (hg : g.method = m) {rest : List Value} (hs : g.stack = .int j :: .ref a :: rest) (hd : decode c.code g.pc = .ok (.iaload, 1)) {target : State}
    (hr : Steps p.tables e below (T.setTop { g with pc := g.pc + 1, stack := .int (f k) :: rest }) target) : Steps p.tables e below (T.setTop g) target := by
  obtain ⟨cl, A, S, H⟩ := A
  exact X.iaload hx (j := j) (v := .int (f k)) (by rw [eT]; exact A.1) (State.isArrayOf_alike hZ.alike A.2.1) A.2.2 (by rw [S]; exact own_in hj hk) (by rw [own_nat hj]; exact H k hk) hg hs hd _ hr
theorem own_baload (X : Stand p l e R s m args below meth c T locs cells slots) (hx : p.tables.exec = Jvm.exec) (hZ : Z.Warmed39 s.vm) (eT : T.heap = h) (A : own_Ai Z h a .byte n f) {j : Int32} {k : Nat} (hj : j.toInt = k) (hk : k < n) {g : JFrame} (hg : g.method = m) {rest : List Value} (hs : g.stack = .int j :: .ref a :: rest) (hd : decode c.code g.pc = .ok (.baload, 1)) {target : State}
    (hr : Steps p.tables e below (T.setTop { g with pc := g.pc + 1, stack := .int (f k) :: rest }) target) : Steps p.tables e below (T.setTop g) target := by
  obtain ⟨cl, A, S, H⟩ := A
  exact X.baloadBytes hx (j := j) (v := .int (f k)) (by rw [eT]; exact A.1) (State.isArrayOf_alike hZ.alike A.2.1) A.2.2 (by rw [S]; exact own_in hj hk) (by rw [own_nat hj]; exact H k hk) hg hs hd _ hr
theorem own_laload (X : Stand p l e R s m args below meth c T locs cells slots) (hx : p.tables.exec = Jvm.exec) (hZ : Z.Warmed39 s.vm) (eT : T.heap = h) (A : own_Aj Z h a .long n fj) {j : Int32} {k : Nat} (hj : j.toInt = k) (hk : k < n) {g : JFrame} (hg : g.method = m) {rest : List Value} (hs : g.stack = .int j :: .ref a :: rest) (hd : decode c.code g.pc = .ok (.laload, 1)) {target : State}
    (hr : Steps p.tables e below (T.setTop { g with pc := g.pc + 1, stack := .long (fj k) :: rest }) target) : Steps p.tables e below (T.setTop g) target := by
  obtain ⟨cl, A, S, H⟩ := A
  exact X.laload hx (j := j) (v := .long (fj k)) (by rw [eT]; exact A.1) (State.isArrayOf_alike hZ.alike A.2.1) A.2.2 (by rw [S]; exact own_in hj hk) (by rw [own_nat hj]; exact H k hk) hg hs hd _ hr
theorem own_alen (X : Stand p l e R s m args below meth c T locs cells slots) (hx : p.tables.exec = Jvm.exec) (hZ : Z.Warmed39 s.vm) (eT : T.heap = h) (A : own_Ai Z h a ty n f) {z : Int32} (hz : z.toInt = n) {g : JFrame} (hg : g.method = m) {rest : List Value} (hs : g.stack = .ref a :: rest) (hd : decode c.code g.pc = .ok (.arraylength, 1)) {target : State}
    (hr : Steps p.tables e below (T.setTop { g with pc := g.pc + 1, stack := .int z :: rest }) target) : Steps p.tables e below (T.setTop g) target := by
  obtain ⟨cl, A, S, H⟩ := A
  refine X.arraylength hx (by rw [eT]; exact A.1) (State.isArrayOf_alike hZ.alike A.2.1) hg hs hd _ ?_
  rw [S, own_len hz]; exact hr
theorem own_Ai.set (F : own_Ai Z h a ty n f) {j : Nat} {x : Int32} (W : Wr h h' a j (.int x)) : own_Ai Z h' a ty n (own_up f j x) := by
  obtain ⟨cl, A, S, H⟩ := F
  refine ⟨_, A.same W, by rw [sz_set]; exact S, fun i hi => ?_⟩
  rw [own_up_at]
  by_cases q : i = j
  · subst q
    rw [if_pos rfl]
    simp [Cell.setSlot, S, hi]
  · rw [if_neg q, show (cl.setSlot j (.int x)).slots[i]? = cl.slots[i]? from Array.getElem?_setIfInBounds_ne (Ne.symm q)]
    exact H i hi
theorem own_Aj.set (F : own_Aj Z h a ty n fj) {j : Nat} {x : Int64} (W : Wr h h' a j (.long x)) : own_Aj Z h' a ty n (own_upJ fj j x) := by
  obtain ⟨cl, A, S, H⟩ := F
  refine ⟨_, A.same W, by rw [sz_set]; exact S, fun i hi => ?_⟩
  rw [own_upJ_at]
  by_cases q : i = j
  · subst q
    rw [if_pos rfl]
    simp [Cell.setSlot, S, hi]
  · rw [if_neg q, show (cl.setSlot j (.long x)).slots[i]? = cl.slots[i]? from Array.getElem?_setIfInBounds_ne (Ne.symm q)]
    exact H i hi
theorem own_iastore (X : Stand p l e R s m args below meth c T locs cells slots) (hx : p.tables.exec = Jvm.exec) (hZ : Z.Warmed39 s.vm) (eT : T.heap = h) (A : own_Ai Z h a .int n f) {j x : Int32} {k : Nat} (hj : j.toInt = k) (hk : k < n) {g : JFrame} (hg : g.method = m) {rest : List Value} (hs : g.stack = .int x :: .int j :: .ref a :: rest) (hd : decode c.code g.pc = .ok (.iastore, 1)) :
    ∃ T' h', Stand p l e R s m args below meth c T' (locs ++ [⟨a, k⟩]) cells slots ∧ T'.heap = h' ∧ Wr h h' a k (.int x) ∧ own_Ai Z h' a .int n (own_up f k x) ∧ ∀ target, Steps p.tables e below (T'.setTop { g with pc := g.pc + 1, stack := rest }) target → Steps p.tables e below (T.setTop g) target := by
  obtain ⟨cl, B, S, H⟩ := id A
  obtain ⟨T', h', X', e', W, st⟩ := stI X hx hZ eT B (j := j) (x := x) (by rw [S]; exact own_in hj hk) hg hs hd
  rw [own_nat hj] at X' W
  exact ⟨T', h', X', e', W, A.set W, st⟩
theorem own_bastore (X : Stand p l e R s m args below meth c T locs cells slots) (hx : p.tables.exec = Jvm.exec) (hZ : Z.Warmed39 s.vm) (eT : T.heap = h) (A : own_Ai Z h a .byte n f) {j x : Int32} {k : Nat} (hj : j.toInt = k) (hk : k < n) {g : JFrame} (hg : g.method = m) {rest : List Value} (hs : g.stack = .int x :: .int j :: .ref a :: rest) (hd : decode c.code g.pc = .ok (.bastore, 1)) :
    ∃ T' h', Stand p l e R s m args below meth c T' (locs ++ [⟨a, k⟩]) cells slots ∧ T'.heap = h' ∧ Wr h h' a k (.int x.toInt8.toInt32) ∧ own_Ai Z h' a .byte n (own_up f k x.toInt8.toInt32) ∧ ∀ target, Steps p.tables e below (T'.setTop { g with pc := g.pc + 1, stack := rest }) target → Steps p.tables e below (T.setTop g) target := by
  obtain ⟨cl, B, S, H⟩ := id A
  obtain ⟨T', h', X', e', W, st⟩ := stB X hx hZ eT B (j := j) (x := x) (by rw [S]; exact own_in hj hk) hg hs hd
  rw [own_nat hj] at X' W
  exact ⟨T', h', X', e', W, A.set W, st⟩
theorem own_lastore (X : Stand p l e R s m args below meth c T locs cells slots) (hx : p.tables.exec = Jvm.exec) (hZ : Z.Warmed39 s.vm) (eT : T.heap = h) (A : own_Aj Z h a .long n fj) {j : Int32} {x : Int64} {k : Nat} (hj : j.toInt = k) (hk : k < n) {g : JFrame} (hg : g.method = m) {rest : List Value} (hs : g.stack = .long x :: .int j :: .ref a :: rest) (hd : decode c.code g.pc = .ok (.lastore, 1)) :
    ∃ T' h', Stand p l e R s m args below meth c T' (locs ++ [⟨a, k⟩]) cells slots ∧ T'.heap = h' ∧ Wr h h' a k (.long x) ∧ own_Aj Z h' a .long n (own_upJ fj k x) ∧ ∀ target, Steps p.tables e below (T'.setTop { g with pc := g.pc + 1, stack := rest }) target → Steps p.tables e below (T.setTop g) target := by
  obtain ⟨cl, B, S, H⟩ := id A
  obtain ⟨T', h', X', e', W, st⟩ := stJ X hx hZ eT B (j := j) (x := x) (by rw [S]; exact own_in hj hk) hg hs hd
  rw [own_nat hj] at X' W
  exact ⟨T', h', X', e', W, A.set W, st⟩
theorem own_newarr (X : Stand p l e R s m args below meth c T locs cells slots) (hx : p.tables.exec = Jvm.exec) (hZ : Z.Warmed39 s.vm) {a0 : Array Value} {aty : ArrayType} (w : (Cond.arrayClass (newarray.typeOf aty)).before a0 Z = true) (eT : T.heap = h) {g : JFrame} (hg : g.method = m) (hd : decode c.code g.pc = .ok (.newarray aty, 2)) {z : Int32} {rest : List Value} (hs : g.stack = .int z :: rest) {k : Nat}
    (hz : z.toInt = k) {cap : Nat} (hcap : k ≤ cap) (hb : cap * 8 ≤ 536870912) (hc : cells + 1 ≤ R.cells) (hl : slots + cap ≤ R.slots) :
    ∃ T' h' cl, Stand p l e R s m args below meth c T' locs (cells + 1) (slots + cap) ∧ T'.heap = h' ∧ Ext h h' ∧ (Arr Z h' h.size cl (newarray.typeOf aty) ∧ cl.slots = Array.replicate k (defaultValue (newarray.typeOf aty))) ∧
      ∀ target, Steps p.tables e below (T'.setTop { g with pc := g.pc + 2, stack := .ref h.size :: rest }) target → Steps p.tables e below (T.setTop g) target := by
  have hn : ¬ z < 0 := by rw [Int32.lt_iff_toInt_lt, hz, show (0 : Int32).toInt = 0 from rfl]; omega
  obtain ⟨T', h', cA, X', e', E, A, st⟩ := newP X hx hZ w eT hg hd hs hn (by rw [own_nat hz]; exact hcap) hb hc hl
  exact ⟨T', h', _, X', e', E, ⟨A, by simp [newA, own_nat hz]⟩, st⟩
theorem own_Ai.new {cl : Cell} {k : Nat} (A : Arr Z h a cl ty ∧ cl.slots = Array.replicate k (.int 0)) : own_Ai Z h a ty k (fun _ => 0) :=
  ⟨cl, A.1, by rw [A.2]; simp, fun i hi => by rw [A.2]; simp [hi]⟩
theorem own_Aj.new {cl : Cell} {k : Nat} (A : Arr Z h a cl ty ∧ cl.slots = Array.replicate k (.long 0)) : own_Aj Z h a ty k (fun _ => 0) :=
  ⟨cl, A.1, by rw [A.2]; simp, fun i hi => by rw [A.2]; simp [hi]⟩
theorem own_l_lt (x y : Int64) {b : Bool} (h : if_icmp.holds .lt (lcmpW x y) 0 = b) : ifCond.holds .lt (lcmpW x y) = b := (if0 _ _).trans h
end Own
end Jvm.RoadKit
namespace Jvm.Pilot.@@N@@
open Jvm Jvm.ClassFile Sem Op Lib Jvm.Free Jvm.Stand Jvm.LawKit Jvm.RoadKit Bundle Jvm.Pilot.@@N@@.Jvm.D
def own_ct (z : Int32) : Int32 := if z &&& 192 = 128 then 1 else 0
def own_ln (l c1 x2 x3 n : Int32) : Int32 := if l < 194 then 0 else if l < 224 then (if n < 2 then 0 else if c1 < 128 then 0 else if 191 < c1 then 0 else 2) else
  if l < 240 then (if n < 3 then 0 else if c1 < (if l = 224 then 160 else 128) then 0 else if (if l = 237 then 159 else 191) < c1 then 0 else if x2 &&& 192 = 128 then 3 else 0) else
  if l < 245 then (if n < 4 then 0 else if c1 < (if l = 240 then 144 else 128) then 0 else if (if l = 244 then 143 else 191) < c1 then 0 else if x2 &&& 192 = 128 then (if x3 &&& 192 = 128 then 4 else 0) else 0) else 0
def own_ex (xl y1 y2 y3 xn : Int32) : Int32 := if xl &&& 224 = 192 then (if xn < 2 then 0 else if own_ct y1 = 0 then 0 else if (((xl &&& 31) <<< ((6 : Int32) &&& 31)) ||| (y1 &&& 63)) < 128 then 0 else 2) else
  if xl &&& 240 = 224 then (if xn < 3 then 0 else if own_ct y1 = 0 then 0 else if own_ct y2 = 0 then 0 else if ((((xl &&& 15) <<< ((12 : Int32) &&& 31)) ||| ((y1 &&& 63) <<< ((6 : Int32) &&& 31))) ||| (y2 &&& 63)) < 2048 then 0 else if ((((xl &&& 15) <<< ((12 : Int32) &&& 31)) ||| ((y1 &&& 63) <<< ((6 : Int32) &&& 31))) ||| (y2 &&& 63)) < 55296 then 3 else if 57343 < ((((xl &&& 15) <<< ((12 : Int32) &&& 31)) ||| ((y1 &&& 63) <<< ((6 : Int32) &&& 31))) ||| (y2 &&& 63)) then 3 else 0) else
  if xl &&& 248 = 240 then (if xn < 4 then 0 else if own_ct y1 = 0 then 0 else if own_ct y2 = 0 then 0 else if own_ct y3 = 0 then 0 else if (((((xl &&& 7) <<< ((18 : Int32) &&& 31)) ||| ((y1 &&& 63) <<< ((12 : Int32) &&& 31))) ||| ((y2 &&& 63) <<< ((6 : Int32) &&& 31))) ||| (y3 &&& 63)) < 65536 then 0 else if 1114111 < (((((xl &&& 7) <<< ((18 : Int32) &&& 31)) ||| ((y1 &&& 63) <<< ((12 : Int32) &&& 31))) ||| ((y2 &&& 63) <<< ((6 : Int32) &&& 31))) ||| (y3 &&& 63)) then 0 else 4) else 0
theorem own_ilt {a b : Int32} : a < b ↔ a.toInt < b.toInt := Int32.lt_iff_toInt_lt
theorem own_b8 (z : Int32) (h1 : -128 ≤ z.toInt) (h2 : z.toInt < 128) : z.toInt8.toInt32 = z := by
  have q := c_i2b z
  exact Int32.toInt_inj.mp (by omega)
theorem own_b88 (z : Int32) : (z.toInt8.toInt32).toInt8.toInt32 = z.toInt8.toInt32 := by have q := c_i2b z; exact own_b8 _ q.2.1 q.2.2
theorem own_ai {a i : Int32} {A k : Nat} (h : a.toInt = (A : Int)) (h2 : A < 8) (hi : i.toInt = (k : Int)) (hk : k < 100) : (a + i).toInt = ((A + k : Nat) : Int) := by
  have q := c_iadd a i
  have r := rng32 (a + i)
  omega
theorem own_can32 (a b : Int32) : (a + b) - a = b := by rw [Int32.add_comm, Int32.add_sub_cancel]
theorem own_b255 (z : Int32) : 0 ≤ (z &&& 255).toInt ∧ (z &&& 255).toInt ≤ 255 := c_and z 255 (by decide)
theorem own_kk : ∀ i : Fin 256, ((Int32.ofNat i.val &&& 224 = 192) ↔ (192 ≤ i.val ∧ i.val < 224)) ∧ ((Int32.ofNat i.val &&& 240 = 224) ↔ (224 ≤ i.val ∧ i.val < 240)) ∧ ((Int32.ofNat i.val &&& 248 = 240) ↔ (240 ≤ i.val ∧ i.val < 248)) ∧ ((Int32.ofNat i.val &&& 192 = 128) ↔ (128 ≤ i.val ∧ i.val < 192)) := by decide +kernel
theorem own_k (z : Int32) (h0 : 0 ≤ z.toInt ∧ z.toInt ≤ 255) : ((z &&& 224 = 192) ↔ (192 ≤ z.toInt ∧ z.toInt < 224)) ∧ ((z &&& 240 = 224) ↔ (224 ≤ z.toInt ∧ z.toInt < 240)) ∧ ((z &&& 248 = 240) ↔ (240 ≤ z.toInt ∧ z.toInt < 248)) ∧ ((z &&& 192 = 128) ↔ (128 ≤ z.toInt ∧ z.toInt < 192)) := by
  have e : z = Int32.ofNat z.toInt.toNat := Int32.toInt_inj.mp (by rw [Int32.toInt_ofNat_of_lt (by omega)]; omega)
  have q := own_kk ⟨z.toInt.toNat, by omega⟩
  dsimp only at q
  rw [← e] at q
  exact ⟨q.1.trans ⟨fun h => by omega, fun h => by omega⟩, q.2.1.trans ⟨fun h => by omega, fun h => by omega⟩, q.2.2.1.trans ⟨fun h => by omega, fun h => by omega⟩, q.2.2.2.trans ⟨fun h => by omega, fun h => by omega⟩⟩
theorem own_ct0 (z : Int32) (h0 : 0 ≤ z.toInt ∧ z.toInt ≤ 255) : own_ct z = 0 ↔ ¬ (128 ≤ z.toInt ∧ z.toInt < 192) := by
  have k := (own_k z h0).2.2.2
  unfold own_ct
  by_cases c : z &&& 192 = 128
  · rw [if_pos c]; exact ⟨fun h => absurd h (by decide), fun h => absurd (k.mp c) h⟩
  · rw [if_neg c]; exact ⟨fun _ h => c (k.mpr h), fun _ => rfl⟩
theorem own_shl (z q : Int32) (k : Nat) (P : Int) (hk : q.toBitVec.toNat % 32 = k) (hP : ((2 ^ k : Nat) : Int) = P) (h0 : 0 ≤ z.toInt * P) (h1 : z.toInt * P < 2147483648) : (z <<< (q &&& 31)).toInt = z.toInt * P := by
  have h := c_ishl z q k hk
  have r := rng32 (z <<< (q &&& 31))
  rw [hP] at h
  generalize z.toInt * P = w at *
  omega
theorem own_or (a b : Int32) (k : Nat) (P : Int) (hk : k ≤ 31) (hP : P = (2 ^ k : Nat)) (ha : a.toInt % P = 0) (h0 : 0 ≤ a.toInt) (hb : 0 ≤ b.toInt) (hb1 : b.toInt < P) (h1 : a.toInt + b.toInt < 2147483648) : (a ||| b).toInt = a.toInt + b.toInt := by
  have h := c_or a b k hk P hP ha hb hb1
  have r := rng32 (a ||| b)
  omega
theorem own_m63 (z : Int32) : (z &&& 63).toInt = z.toInt % 64 := c_mask z 63 6 (by decide) (by decide)
theorem own_cp2 (xl y1 : Int32) : (((xl &&& 31) <<< ((6 : Int32) &&& 31)) ||| (y1 &&& 63)).toInt = xl.toInt % 32 * 64 + y1.toInt % 64 := by
  have m1 : (xl &&& 31).toInt = xl.toInt % 32 := c_mask xl 31 5 (by decide) (by decide)
  have m2 := own_m63 y1
  have s1 := own_shl (xl &&& 31) 6 6 64 (by decide) (by decide) (by omega) (by omega)
  rw [own_or _ _ 6 64 (by decide) (by decide) (by omega) (by omega) (by omega) (by omega) (by omega), s1, m1, m2]
theorem own_cp3 (xl y1 y2 : Int32) : ((((xl &&& 15) <<< ((12 : Int32) &&& 31)) ||| ((y1 &&& 63) <<< ((6 : Int32) &&& 31))) ||| (y2 &&& 63)).toInt = xl.toInt % 16 * 4096 + y1.toInt % 64 * 64 + y2.toInt % 64 := by
  have m1 : (xl &&& 15).toInt = xl.toInt % 16 := c_mask xl 15 4 (by decide) (by decide)
  have m2 := own_m63 y1
  have m3 := own_m63 y2
  have s1 := own_shl (xl &&& 15) 12 12 4096 (by decide) (by decide) (by omega) (by omega)
  have s2 := own_shl (y1 &&& 63) 6 6 64 (by decide) (by decide) (by omega) (by omega)
  have o1 := own_or ((xl &&& 15) <<< ((12 : Int32) &&& 31)) ((y1 &&& 63) <<< ((6 : Int32) &&& 31)) 12 4096 (by decide) (by decide) (by omega) (by omega) (by omega) (by omega) (by omega)
  rw [own_or _ _ 6 64 (by decide) (by decide) (by omega) (by omega) (by omega) (by omega) (by omega), o1, s1, s2, m1, m2, m3]
theorem own_cp4 (xl y1 y2 y3 : Int32) : (((((xl &&& 7) <<< ((18 : Int32) &&& 31)) ||| ((y1 &&& 63) <<< ((12 : Int32) &&& 31))) ||| ((y2 &&& 63) <<< ((6 : Int32) &&& 31))) ||| (y3 &&& 63)).toInt = xl.toInt % 8 * 262144 + y1.toInt % 64 * 4096 + y2.toInt % 64 * 64 + y3.toInt % 64 := by
  have m1 : (xl &&& 7).toInt = xl.toInt % 8 := c_mask xl 7 3 (by decide) (by decide)
  have m2 := own_m63 y1
  have m3 := own_m63 y2
  have m4 := own_m63 y3
  have s1 := own_shl (xl &&& 7) 18 18 262144 (by decide) (by decide) (by omega) (by omega)
  have s2 := own_shl (y1 &&& 63) 12 12 4096 (by decide) (by decide) (by omega) (by omega)
  have s3 := own_shl (y2 &&& 63) 6 6 64 (by decide) (by decide) (by omega) (by omega)
  have o1 := own_or ((xl &&& 7) <<< ((18 : Int32) &&& 31)) ((y1 &&& 63) <<< ((12 : Int32) &&& 31)) 18 262144 (by decide) (by decide) (by omega) (by omega) (by omega) (by omega) (by omega)
  have o2 := own_or (((xl &&& 7) <<< ((18 : Int32) &&& 31)) ||| ((y1 &&& 63) <<< ((12 : Int32) &&& 31))) ((y2 &&& 63) <<< ((6 : Int32) &&& 31)) 12 4096 (by decide) (by decide) (by omega) (by omega) (by omega) (by omega) (by omega)
  rw [own_or _ _ 6 64 (by decide) (by decide) (by omega) (by omega) (by omega) (by omega) (by omega), o2, o1, s1, s2, s3, m1, m2, m3, m4]
theorem own_ieq (a b : Int32) : a = b ↔ a.toInt = b.toInt := Int32.toInt_inj.symm
theorem own_l2 {α : Type} (z t : α) (L C1 N : Int) (a : 194 ≤ L ∧ L < 224) (h1 : 0 ≤ C1 ∧ C1 ≤ 255) :
  (if N < 2 then z else if C1 < 128 then z else if 191 < C1 then z else t) = (if N < 2 then z else if ¬ (128 ≤ C1 ∧ C1 < 192) then z else if L % 32 * 64 + C1 % 64 < 128 then z else t) := by
  by_cases n : N < 2
  · rw [if_pos n, if_pos n]
  · rw [if_neg n, if_neg n]
    by_cases A : (128 ≤ C1 ∧ C1 < 192)
    · rw [if_neg (show ¬ C1 < 128 by omega), if_neg (show ¬ 191 < C1 by omega), if_neg (show ¬ ¬ (128 ≤ C1 ∧ C1 < 192) from fun h => h A), if_neg (by omega)]
    · rw [if_pos A]
      by_cases k : C1 < 128
      · rw [if_pos k]
      · rw [if_neg k, if_pos (by omega)]
theorem own_l2z {α : Type} (z t : α) (L C1 N : Int) (a : 192 ≤ L ∧ L < 194) : (if N < 2 then z else if ¬ (128 ≤ C1 ∧ C1 < 192) then z else if L % 32 * 64 + C1 % 64 < 128 then z else t) = z := by
  rw [if_pos (show L % 32 * 64 + C1 % 64 < 128 by omega)]
  repeat' split
  all_goals rfl
theorem own_l3 {α : Type} (z t : α) (L C1 C2 N : Int) (h1 : 0 ≤ C1 ∧ C1 ≤ 255) (a : 224 ≤ L ∧ L < 240) :
  (if N < 3 then z else if C1 < (if L = 224 then 160 else 128) then z else if (if L = 237 then 159 else 191) < C1 then z else if (128 ≤ C2 ∧ C2 < 192) then t else z) =
  (if N < 3 then z else if ¬ (128 ≤ C1 ∧ C1 < 192) then z else if ¬ (128 ≤ C2 ∧ C2 < 192) then z else if L % 16 * 4096 + C1 % 64 * 64 + C2 % 64 < 2048 then z else if L % 16 * 4096 + C1 % 64 * 64 + C2 % 64 < 55296 then t else if 57343 < L % 16 * 4096 + C1 % 64 * 64 + C2 % 64 then t else z) := by
  by_cases n : N < 3
  · rw [if_pos n, if_pos n]
  · rw [if_neg n, if_neg n]
    by_cases B : (128 ≤ C2 ∧ C2 < 192)
    · rw [if_neg (show ¬ ¬ (128 ≤ C2 ∧ C2 < 192) from fun h => h B), if_pos B]
      have e : C2 % 64 = C2 - 128 := by omega
      rw [e]
      by_cases A : (128 ≤ C1 ∧ C1 < 192)
      · rw [if_neg (show ¬ ¬ (128 ≤ C1 ∧ C1 < 192) from fun h => h A)]
        have e1 : C1 % 64 = C1 - 128 := by omega
        have e2 : L % 16 = L - 224 := by omega
        rw [e1, e2]
        by_cases g1 : L = 224
        · rw [if_pos g1, if_neg (show ¬ L = 237 by omega)]
          by_cases k : C1 < 160
          · rw [if_pos k, if_pos (by omega)]
          · rw [if_neg k, if_neg (show ¬ (191 < C1) by omega), if_neg (by omega), if_pos (by omega)]
        · rw [if_neg g1, if_neg (show ¬ C1 < 128 by omega)]
          by_cases g2 : L = 237
          · rw [if_pos g2]
            by_cases k : 159 < C1
            · rw [if_pos k, if_neg (by omega), if_neg (by omega), if_neg (by omega)]
            · rw [if_neg k, if_neg (by omega), if_pos (by omega)]
          · rw [if_neg g2, if_neg (show ¬ (191 < C1) by omega), if_neg (by omega)]
            by_cases k : (L - 224) * 4096 + (C1 - 128) * 64 + (C2 - 128) < 55296
            · rw [if_pos k]
            · rw [if_neg k, if_pos (by omega)]
      · rw [if_pos A]
        by_cases k : C1 < (if L = 224 then 160 else 128)
        · rw [if_pos k]
        · rw [if_neg k, if_pos]
          split at k <;> split <;> omega
    · rw [if_neg B, if_pos B]
      repeat' split
      all_goals rfl
theorem own_l4 {α : Type} (z t : α) (L C1 C2 C3 N : Int) (h1 : 0 ≤ C1 ∧ C1 ≤ 255) (a : 240 ≤ L ∧ L < 245) :
  (if N < 4 then z else if C1 < (if L = 240 then 144 else 128) then z else if (if L = 244 then 143 else 191) < C1 then z else if (128 ≤ C2 ∧ C2 < 192) then (if (128 ≤ C3 ∧ C3 < 192) then t else z) else z) =
  (if N < 4 then z else if ¬ (128 ≤ C1 ∧ C1 < 192) then z else if ¬ (128 ≤ C2 ∧ C2 < 192) then z else if ¬ (128 ≤ C3 ∧ C3 < 192) then z else if L % 8 * 262144 + C1 % 64 * 4096 + C2 % 64 * 64 + C3 % 64 < 65536 then z else if 1114111 < L % 8 * 262144 + C1 % 64 * 4096 + C2 % 64 * 64 + C3 % 64 then z else t) := by
  by_cases n : N < 4
  · rw [if_pos n, if_pos n]
  · rw [if_neg n, if_neg n]
    by_cases B : (128 ≤ C2 ∧ C2 < 192)
    · rw [if_neg (show ¬ ¬ (128 ≤ C2 ∧ C2 < 192) from fun h => h B), if_pos B]
      by_cases D : (128 ≤ C3 ∧ C3 < 192)
      · rw [if_neg (show ¬ ¬ (128 ≤ C3 ∧ C3 < 192) from fun h => h D), if_pos D]
        have e : C2 % 64 = C2 - 128 := by omega
        have e' : C3 % 64 = C3 - 128 := by omega
        rw [e, e']
        by_cases A : (128 ≤ C1 ∧ C1 < 192)
        · rw [if_neg (show ¬ ¬ (128 ≤ C1 ∧ C1 < 192) from fun h => h A)]
          have e1 : C1 % 64 = C1 - 128 := by omega
          have e2 : L % 8 = L - 240 := by omega
          rw [e1, e2]
          by_cases g1 : L = 240
          · rw [if_pos g1, if_neg (show ¬ L = 244 by omega)]
            by_cases k : C1 < 144
            · rw [if_pos k, if_pos (by omega)]
            · rw [if_neg k, if_neg (show ¬ (191 < C1) by omega), if_neg (by omega), if_neg (by omega)]
          · rw [if_neg g1, if_neg (show ¬ C1 < 128 by omega)]
            by_cases g2 : L = 244
            · rw [if_pos g2]
              by_cases k : 143 < C1
              · rw [if_pos k, if_neg (by omega), if_pos (by omega)]
              · rw [if_neg k, if_neg (by omega), if_neg (by omega)]
            · rw [if_neg g2, if_neg (show ¬ (191 < C1) by omega), if_neg (by omega), if_neg (by omega)]
        · rw [if_pos A]
          by_cases k : C1 < (if L = 240 then 144 else 128)
          · rw [if_pos k]
          · rw [if_neg k, if_pos]
            split at k <;> split <;> omega
      · rw [if_neg D, if_pos D]
        repeat' split
        all_goals rfl
    · rw [if_neg B, if_pos B]
      repeat' split
      all_goals rfl
theorem own_l4z {α : Type} (z t : α) (L C1 C2 C3 N : Int) (a : 245 ≤ L ∧ L < 248) : (if N < 4 then z else if ¬ (128 ≤ C1 ∧ C1 < 192) then z else if ¬ (128 ≤ C2 ∧ C2 < 192) then z else if ¬ (128 ≤ C3 ∧ C3 < 192) then z else if L % 8 * 262144 + C1 % 64 * 4096 + C2 % 64 * 64 + C3 % 64 < 65536 then z else if 1114111 < L % 8 * 262144 + C1 % 64 * 4096 + C2 % 64 * 64 + C3 % 64 then z else t) = z := by
  rw [if_pos (show 1114111 < L % 8 * 262144 + C1 % 64 * 4096 + C2 % 64 * 64 + C3 % 64 by omega)]
  repeat' split
  all_goals rfl
theorem own_fin (x0 x1 x2 x3 n : Int32) : own_ln (x0 &&& 255) (x1 &&& 255) x2 x3 n = own_ex (x0 &&& 255) (x1 &&& 255) (x2 &&& 255) (x3 &&& 255) n := by
  have e2 : (x2 &&& 192 = 128) ↔ ((x2 &&& 255) &&& 192 = 128) := by rw [Int32.and_assoc, show (255 &&& 192 : Int32) = 192 from by decide]
  have e3 : (x3 &&& 192 = 128) ↔ ((x3 &&& 255) &&& 192 = 128) := by rw [Int32.and_assoc, show (255 &&& 192 : Int32) = 192 from by decide]
  have p2 := own_cp2 (x0 &&& 255) (x1 &&& 255)
  have p3 := own_cp3 (x0 &&& 255) (x1 &&& 255) (x2 &&& 255)
  have p4 := own_cp4 (x0 &&& 255) (x1 &&& 255) (x2 &&& 255) (x3 &&& 255)
  have hl := own_b255 x0
  have h1 := own_b255 x1
  have h2 := own_b255 x2
  have h3 := own_b255 x3
  have t1 := own_ct0 _ h1
  have t2 := own_ct0 _ h2
  have t3 := own_ct0 _ h3
  have kl := own_k _ hl
  have k2 := (own_k _ h2).2.2.2
  have k3 := (own_k _ h3).2.2.2
  unfold own_ln own_ex
  simp only [e2, e3, k2, k3, kl.1, kl.2.1, kl.2.2.1, t1, t2, t3, own_ilt, own_ieq (x0 &&& 255) 224, own_ieq (x0 &&& 255) 237, own_ieq (x0 &&& 255) 240, own_ieq (x0 &&& 255) 244, apply_ite Int32.toInt, p2, p3, p4,
    show (194 : Int32).toInt = 194 from rfl, show (224 : Int32).toInt = 224 from rfl, show (240 : Int32).toInt = 240 from rfl, show (245 : Int32).toInt = 245 from rfl, show (237 : Int32).toInt = 237 from rfl, show (244 : Int32).toInt = 244 from rfl, show (2 : Int32).toInt = 2 from rfl, show (3 : Int32).toInt = 3 from rfl, show (4 : Int32).toInt = 4 from rfl, show (128 : Int32).toInt = 128 from rfl, show (191 : Int32).toInt = 191 from rfl, show (160 : Int32).toInt = 160 from rfl, show (159 : Int32).toInt = 159 from rfl, show (144 : Int32).toInt = 144 from rfl, show (143 : Int32).toInt = 143 from rfl, show (2048 : Int32).toInt = 2048 from rfl, show (55296 : Int32).toInt = 55296 from rfl, show (57343 : Int32).toInt = 57343 from rfl, show (65536 : Int32).toInt = 65536 from rfl, show (1114111 : Int32).toInt = 1114111 from rfl]
  clear e2 e3 p2 p3 p4 t1 t2 t3 kl k2 k3
  generalize (x0 &&& 255).toInt = L at *
  generalize (x1 &&& 255).toInt = C1 at *
  generalize (x2 &&& 255).toInt = C2 at *
  generalize (x3 &&& 255).toInt = C3 at *
  generalize n.toInt = N at *
  by_cases a1 : L < 192
  · rw [if_pos (show L < 194 by omega), if_neg (show ¬ (192 ≤ L ∧ L < 224) by omega), if_neg (show ¬ (224 ≤ L ∧ L < 240) by omega), if_neg (show ¬ (240 ≤ L ∧ L < 248) by omega)]
  · by_cases a2 : L < 224
    · rw [if_pos (show (192 ≤ L ∧ L < 224) by omega)]
      by_cases a3 : L < 194
      · rw [if_pos a3]
        exact (own_l2z _ _ L C1 N ⟨by omega, a3⟩).symm
      · rw [if_neg a3, if_pos a2]
        exact own_l2 _ _ L C1 N ⟨by omega, a2⟩ h1
    · rw [if_neg (show ¬ L < 194 by omega), if_neg a2, if_neg (show ¬ (192 ≤ L ∧ L < 224) by omega)]
      by_cases a4 : L < 240
      · rw [if_pos a4, if_pos (show (224 ≤ L ∧ L < 240) by omega)]
        exact own_l3 _ _ L C1 C2 N h1 ⟨by omega, a4⟩
      · rw [if_neg a4, if_neg (show ¬ (224 ≤ L ∧ L < 240) by omega)]
        by_cases a5 : L < 248
        · rw [if_pos (show (240 ≤ L ∧ L < 248) by omega)]
          by_cases a6 : L < 245
          · rw [if_pos a6]
            exact own_l4 _ _ L C1 C2 C3 N h1 ⟨by omega, a6⟩
          · rw [if_neg a6]
            exact (own_l4z _ _ L C1 C2 C3 N ⟨by omega, a5⟩).symm
        · rw [if_neg (show ¬ L < 245 by omega), if_neg (show ¬ (240 ≤ L ∧ L < 248) by omega)]

theorem d3_0 : decode method_3_code 0 = .ok (.iload_n 0, 1) := by decide +kernel
theorem d3_1 : decode method_3_code 1 = .ok (.sipush 192, 3) := by decide +kernel
theorem d3_4 : decode method_3_code 4 = .ok (.iand, 1) := by decide +kernel
theorem d3_5 : decode method_3_code 5 = .ok (.sipush 128, 3) := by decide +kernel
theorem d3_8 : decode method_3_code 8 = .ok (.if_icmp .ne 7, 3) := by decide +kernel
theorem d3_11 : decode method_3_code 11 = .ok (.iconst 1, 1) := by decide +kernel
theorem d3_12 : decode method_3_code 12 = .ok (.goto 4, 3) := by decide +kernel
theorem d3_15 : decode method_3_code 15 = .ok (.iconst 0, 1) := by decide +kernel
theorem d3_16 : decode method_3_code 16 = .ok (.ireturn, 1) := by decide +kernel
theorem pn_3 : plainName "com/example/headwater/headwater/connectors/format/JsonRecordUtf8LengthPinLaw" = true := by first | (simp [plainName, overriddenIn]; done) | decide +kernel
theorem ef_3 (m : MethodId) (x0 : Int32) : entryFrame m #[(.int x0)] 1 = mkF m 0 #[.val (.int x0)] [] := by first | (simp [entryFrame, mkF, argsToLocals, Value.category]; done) | rfl
def Q3 (Z : State) (xc : Int32) (h0 : Heap) (n0 : Nat) (v : Option Value) (h : Heap) (L : List Loc) : Prop := v = some (.int (own_ct xc)) ∧ Fr n0 L ∧ h = h0
set_option maxRecDepth 65536 in
set_option maxHeartbeats 40000000 in
theorem rm3 (l : Launch) (Z : State) (a0 : Array Value) (hw : ∀ d ∈ tables_1, d.before a0 Z = true) (ws : List Jvm.Cond) (xc : Int32) (h0 : Heap) (n0 : Nat) (Z0 : n0 ≤ h0.size) :
    MetFree l (⟨"com/example/headwater/headwater/connectors/format/JsonRecordUtf8LengthPinLaw", "cont", "(I)Z"⟩ : MethodName) (head1 (Jvm.Cond.code (⟨"com/example/headwater/headwater/connectors/format/JsonRecordUtf8LengthPinLaw", "cont", "(I)Z"⟩ : MethodName) method_3_code 1 (some .boolean) :: ws) ({ frames := 0, cells := 0, slots := 0, locals := 0 } : Room)) (fun a U => a = #[(.int xc)] ∧ Z.Warmed39 U.vm ∧ U.heap = h0) (fun _ _ _ _ _ => True) (fun _ U o U' => ∃ v L, o = .returned v ∧ Q3 Z xc h0 n0 v U'.heap L ∧ FrameEnd U o U' L ({ frames := 0, cells := 0, slots := 0, locals := 0 } : Room).cells ({ frames := 0, cells := 0, slots := 0, locals := 0 } : Room).slots) := by
  refine MetFree.of_bodySF (plainFor_of_name pn_3) hisR ?_
  intro p e s m args below meth c s₁ Bd hml0 hP hK
  obtain ⟨rfl, hZ, hh⟩ := hP
  have hx := Bd.exec
  have hby := Bd.bytes
  have hlk : meth.locks = false := BodyLoose.notSynchronized Bd
  have hml : c.maxLocals = 1 := hml0
  have hown : s.vm.findClass "com/example/headwater/headwater/connectors/format/JsonRecordUtf8LengthPinLaw" = some m.cls := findClass_of_methodNamed Bd.named
  have hnm := (name_of_methodNamed Bd.named Bd.method).1
  have X0 : Stand p l e ({ frames := 0, cells := 0, slots := 0, locals := 0 } : Room) s m #[(.int xc)] below meth c s₁ [] 0 0 := Stand.of_body Bd
  have e0 : s₁.heap = h0 := by rw [← hh, Bd.state]; rfl
  have N0 := Fr.nil n0
  show own_Go p e below (own_G s (Q3 Z xc h0 n0) ({ frames := 0, cells := 0, slots := 0, locals := 0 } : Room).cells ({ frames := 0, cells := 0, slots := 0, locals := 0 } : Room).slots) (s₁.setTop (entryFrame m #[(.int xc)] 1))
  refine own_st (fun tgt k => castTop (ef_3 m xc) k) ?_
  show own_Go p e below _ (s₁.setTop (mkF m 0 #[.val (.int xc)] []))
  refine own_st (V := s₁.setTop (mkF m 8 #[.val (.int xc)] [(.int (128 : Int32)), (.int (xc &&& (192 : Int32)))])) (fun tgt k => ?_) ?_
  · show Steps p.tables e below (s₁.setTop (mkF m 0 #[.val (.int xc)] [])) tgt
    refine XS.iloadN X0.here hx rfl (hb hby d3_0) rfl ?_
    show Steps p.tables e below (s₁.setTop (mkF m 1 #[.val (.int xc)] [(.int xc)])) tgt
    refine XS.sipush X0.here hx rfl (hb hby d3_1) ?_
    show Steps p.tables e below (s₁.setTop (mkF m 4 #[.val (.int xc)] [(.int (192 : Int32)), (.int xc)])) tgt
    refine XS.iand X0.here hx rfl (hb hby d3_4) rfl ?_
    show Steps p.tables e below (s₁.setTop (mkF m 5 #[.val (.int xc)] [(.int (xc &&& (192 : Int32)))])) tgt
    refine XS.sipush X0.here hx rfl (hb hby d3_5) ?_
    exact k
  by_cases hc8 : (xc &&& (192 : Int32)) = (128 : Int32)
  · skip
    refine own_st (V := s₁.setTop (mkF m 16 #[.val (.int xc)] [(.int (1 : Int32))])) (fun tgt k => ?_) ?_
    · show Steps p.tables e below (s₁.setTop (mkF m 8 #[.val (.int xc)] [(.int (128 : Int32)), (.int (xc &&& (192 : Int32)))])) tgt
      refine XS.icmpNo X0.here hx rfl (hb hby d3_8) rfl (teq hc8).2 ?_
      show Steps p.tables e below (s₁.setTop (mkF m 11 #[.val (.int xc)] [])) tgt
      refine XS.iconst X0.here hx rfl (hb hby d3_11) ?_
      show Steps p.tables e below (s₁.setTop (mkF m 12 #[.val (.int xc)] [(.int (1 : Int32))])) tgt
      refine XS.goto X0.here hx rfl (pc0 := 12) (pc' := 16) rfl (hb hby d3_12) (by decide) (by decide) ?_
      exact k
    refine own_retN X0 hx hlk (t := .boolean) (z' := (1 : Int32)) Bd.returns (by simp) rfl (hb hby d3_16) ?_ (by decide) (by decide)
    show Q3 Z xc h0 n0 (some (.int (1 : Int32))) s₁.heap _
    rw [e0]
    refine ⟨?_, N0, rfl⟩
    exact congrArg (fun q => some (Value.int q)) (by unfold own_ct; rw [if_pos hc8])
  · skip
    refine own_st (V := s₁.setTop (mkF m 16 #[.val (.int xc)] [(.int (0 : Int32))])) (fun tgt k => ?_) ?_
    · show Steps p.tables e below (s₁.setTop (mkF m 8 #[.val (.int xc)] [(.int (128 : Int32)), (.int (xc &&& (192 : Int32)))])) tgt
      refine XS.icmpYes X0.here hx rfl (pc0 := 8) (pc' := 15) rfl (hb hby d3_8) rfl (feq hc8).2 (by decide) (by decide) ?_
      show Steps p.tables e below (s₁.setTop (mkF m 15 #[.val (.int xc)] [])) tgt
      refine XS.iconst X0.here hx rfl (hb hby d3_15) ?_
      exact k
    refine own_retN X0 hx hlk (t := .boolean) (z' := (0 : Int32)) Bd.returns (by simp) rfl (hb hby d3_16) ?_ (by decide) (by decide)
    show Q3 Z xc h0 n0 (some (.int (0 : Int32))) s₁.heap _
    rw [e0]
    refine ⟨?_, N0, rfl⟩
    exact congrArg (fun q => some (Value.int q)) (by unfold own_ct; rw [if_neg hc8])
theorem d2_0 : decode method_4_code 0 = .ok (.iload_n 0, 1) := by decide +kernel
theorem d2_1 : decode method_4_code 1 = .ok (.sipush 224, 3) := by decide +kernel
theorem d2_4 : decode method_4_code 4 = .ok (.iand, 1) := by decide +kernel
theorem d2_5 : decode method_4_code 5 = .ok (.sipush 192, 3) := by decide +kernel
theorem d2_8 : decode method_4_code 8 = .ok (.if_icmp .ne 9, 3) := by decide +kernel
theorem d2_11 : decode method_4_code 11 = .ok (.iconst 2, 1) := by decide +kernel
theorem d2_12 : decode method_4_code 12 = .ok (.istore 5, 2) := by decide +kernel
theorem d2_14 : decode method_4_code 14 = .ok (.goto 39, 3) := by decide +kernel
theorem d2_17 : decode method_4_code 17 = .ok (.iload_n 0, 1) := by decide +kernel
theorem d2_18 : decode method_4_code 18 = .ok (.sipush 240, 3) := by decide +kernel
theorem d2_21 : decode method_4_code 21 = .ok (.iand, 1) := by decide +kernel
theorem d2_22 : decode method_4_code 22 = .ok (.sipush 224, 3) := by decide +kernel
theorem d2_25 : decode method_4_code 25 = .ok (.if_icmp .ne 9, 3) := by decide +kernel
theorem d2_28 : decode method_4_code 28 = .ok (.iconst 3, 1) := by decide +kernel
theorem d2_29 : decode method_4_code 29 = .ok (.istore 5, 2) := by decide +kernel
theorem d2_31 : decode method_4_code 31 = .ok (.goto 22, 3) := by decide +kernel
theorem d2_34 : decode method_4_code 34 = .ok (.iload_n 0, 1) := by decide +kernel
theorem d2_35 : decode method_4_code 35 = .ok (.sipush 248, 3) := by decide +kernel
theorem d2_38 : decode method_4_code 38 = .ok (.iand, 1) := by decide +kernel
theorem d2_39 : decode method_4_code 39 = .ok (.sipush 240, 3) := by decide +kernel
theorem d2_42 : decode method_4_code 42 = .ok (.if_icmp .ne 9, 3) := by decide +kernel
theorem d2_45 : decode method_4_code 45 = .ok (.iconst 4, 1) := by decide +kernel
theorem d2_46 : decode method_4_code 46 = .ok (.istore 5, 2) := by decide +kernel
theorem d2_48 : decode method_4_code 48 = .ok (.goto 5, 3) := by decide +kernel
theorem d2_51 : decode method_4_code 51 = .ok (.iconst 0, 1) := by decide +kernel
theorem d2_52 : decode method_4_code 52 = .ok (.ireturn, 1) := by decide +kernel
theorem d2_53 : decode method_4_code 53 = .ok (.iload 5, 2) := by decide +kernel
theorem d2_55 : decode method_4_code 55 = .ok (.iload 4, 2) := by decide +kernel
theorem d2_57 : decode method_4_code 57 = .ok (.if_icmp .le 5, 3) := by decide +kernel
theorem d2_60 : decode method_4_code 60 = .ok (.iconst 0, 1) := by decide +kernel
theorem d2_61 : decode method_4_code 61 = .ok (.ireturn, 1) := by decide +kernel
theorem d2_62 : decode method_4_code 62 = .ok (.iload_n 1, 1) := by decide +kernel
theorem d2_63 : decode method_4_code 63 = .ok (.invokestatic 20, 3) := by decide +kernel
theorem d2_66 : decode method_4_code 66 = .ok (.ifCond .ne 5, 3) := by decide +kernel
theorem d2_69 : decode method_4_code 69 = .ok (.iconst 0, 1) := by decide +kernel
theorem d2_70 : decode method_4_code 70 = .ok (.ireturn, 1) := by decide +kernel
theorem d2_71 : decode method_4_code 71 = .ok (.iload 5, 2) := by decide +kernel
theorem d2_73 : decode method_4_code 73 = .ok (.iconst 3, 1) := by decide +kernel
theorem d2_74 : decode method_4_code 74 = .ok (.if_icmp .lt 12, 3) := by decide +kernel
theorem d2_77 : decode method_4_code 77 = .ok (.iload_n 2, 1) := by decide +kernel
theorem d2_78 : decode method_4_code 78 = .ok (.invokestatic 20, 3) := by decide +kernel
theorem d2_81 : decode method_4_code 81 = .ok (.ifCond .ne 5, 3) := by decide +kernel
theorem d2_84 : decode method_4_code 84 = .ok (.iconst 0, 1) := by decide +kernel
theorem d2_85 : decode method_4_code 85 = .ok (.ireturn, 1) := by decide +kernel
theorem d2_86 : decode method_4_code 86 = .ok (.iload 5, 2) := by decide +kernel
theorem d2_88 : decode method_4_code 88 = .ok (.iconst 4, 1) := by decide +kernel
theorem d2_89 : decode method_4_code 89 = .ok (.if_icmp .ne 12, 3) := by decide +kernel
theorem d2_92 : decode method_4_code 92 = .ok (.iload_n 3, 1) := by decide +kernel
theorem d2_93 : decode method_4_code 93 = .ok (.invokestatic 20, 3) := by decide +kernel
theorem d2_96 : decode method_4_code 96 = .ok (.ifCond .ne 5, 3) := by decide +kernel
theorem d2_99 : decode method_4_code 99 = .ok (.iconst 0, 1) := by decide +kernel
theorem d2_100 : decode method_4_code 100 = .ok (.ireturn, 1) := by decide +kernel
theorem d2_101 : decode method_4_code 101 = .ok (.iload 5, 2) := by decide +kernel
theorem d2_103 : decode method_4_code 103 = .ok (.iconst 2, 1) := by decide +kernel
theorem d2_104 : decode method_4_code 104 = .ok (.if_icmp .ne 31, 3) := by decide +kernel
theorem d2_107 : decode method_4_code 107 = .ok (.iload_n 0, 1) := by decide +kernel
theorem d2_108 : decode method_4_code 108 = .ok (.bipush 31, 2) := by decide +kernel
theorem d2_110 : decode method_4_code 110 = .ok (.iand, 1) := by decide +kernel
theorem d2_111 : decode method_4_code 111 = .ok (.bipush 6, 2) := by decide +kernel
theorem d2_113 : decode method_4_code 113 = .ok (.ishl, 1) := by decide +kernel
theorem d2_114 : decode method_4_code 114 = .ok (.iload_n 1, 1) := by decide +kernel
theorem d2_115 : decode method_4_code 115 = .ok (.bipush 63, 2) := by decide +kernel
theorem d2_117 : decode method_4_code 117 = .ok (.iand, 1) := by decide +kernel
theorem d2_118 : decode method_4_code 118 = .ok (.ior, 1) := by decide +kernel
theorem d2_119 : decode method_4_code 119 = .ok (.istore 6, 2) := by decide +kernel
theorem d2_121 : decode method_4_code 121 = .ok (.iload 6, 2) := by decide +kernel
theorem d2_123 : decode method_4_code 123 = .ok (.sipush 128, 3) := by decide +kernel
theorem d2_126 : decode method_4_code 126 = .ok (.if_icmp .lt 7, 3) := by decide +kernel
theorem d2_129 : decode method_4_code 129 = .ok (.iconst 2, 1) := by decide +kernel
theorem d2_130 : decode method_4_code 130 = .ok (.goto 4, 3) := by decide +kernel
theorem d2_133 : decode method_4_code 133 = .ok (.iconst 0, 1) := by decide +kernel
theorem d2_134 : decode method_4_code 134 = .ok (.ireturn, 1) := by decide +kernel
theorem d2_135 : decode method_4_code 135 = .ok (.iload 5, 2) := by decide +kernel
theorem d2_137 : decode method_4_code 137 = .ok (.iconst 3, 1) := by decide +kernel
theorem d2_138 : decode method_4_code 138 = .ok (.if_icmp .ne 53, 3) := by decide +kernel
theorem d2_141 : decode method_4_code 141 = .ok (.iload_n 0, 1) := by decide +kernel
theorem d2_142 : decode method_4_code 142 = .ok (.bipush 15, 2) := by decide +kernel
theorem d2_144 : decode method_4_code 144 = .ok (.iand, 1) := by decide +kernel
theorem d2_145 : decode method_4_code 145 = .ok (.bipush 12, 2) := by decide +kernel
theorem d2_147 : decode method_4_code 147 = .ok (.ishl, 1) := by decide +kernel
theorem d2_148 : decode method_4_code 148 = .ok (.iload_n 1, 1) := by decide +kernel
theorem d2_149 : decode method_4_code 149 = .ok (.bipush 63, 2) := by decide +kernel
theorem d2_151 : decode method_4_code 151 = .ok (.iand, 1) := by decide +kernel
theorem d2_152 : decode method_4_code 152 = .ok (.bipush 6, 2) := by decide +kernel
theorem d2_154 : decode method_4_code 154 = .ok (.ishl, 1) := by decide +kernel
theorem d2_155 : decode method_4_code 155 = .ok (.ior, 1) := by decide +kernel
theorem d2_156 : decode method_4_code 156 = .ok (.iload_n 2, 1) := by decide +kernel
theorem d2_157 : decode method_4_code 157 = .ok (.bipush 63, 2) := by decide +kernel
theorem d2_159 : decode method_4_code 159 = .ok (.iand, 1) := by decide +kernel
theorem d2_160 : decode method_4_code 160 = .ok (.ior, 1) := by decide +kernel
theorem d2_161 : decode method_4_code 161 = .ok (.istore 6, 2) := by decide +kernel
theorem d2_163 : decode method_4_code 163 = .ok (.iload 6, 2) := by decide +kernel
theorem d2_165 : decode method_4_code 165 = .ok (.sipush 2048, 3) := by decide +kernel
theorem d2_168 : decode method_4_code 168 = .ok (.if_icmp .ge 5, 3) := by decide +kernel
theorem d2_171 : decode method_4_code 171 = .ok (.iconst 0, 1) := by decide +kernel
theorem d2_172 : decode method_4_code 172 = .ok (.ireturn, 1) := by decide +kernel
theorem d2_173 : decode method_4_code 173 = .ok (.iload 6, 2) := by decide +kernel
theorem d2_175 : decode method_4_code 175 = .ok (.ldc 24, 2) := by decide +kernel
theorem d2_177 : decode method_4_code 177 = .ok (.if_icmp .lt 12, 3) := by decide +kernel
theorem d2_180 : decode method_4_code 180 = .ok (.iload 6, 2) := by decide +kernel
theorem d2_182 : decode method_4_code 182 = .ok (.ldc 25, 2) := by decide +kernel
theorem d2_184 : decode method_4_code 184 = .ok (.if_icmp .gt 5, 3) := by decide +kernel
theorem d2_187 : decode method_4_code 187 = .ok (.iconst 0, 1) := by decide +kernel
theorem d2_188 : decode method_4_code 188 = .ok (.ireturn, 1) := by decide +kernel
theorem d2_189 : decode method_4_code 189 = .ok (.iconst 3, 1) := by decide +kernel
theorem d2_190 : decode method_4_code 190 = .ok (.ireturn, 1) := by decide +kernel
theorem d2_191 : decode method_4_code 191 = .ok (.iload_n 0, 1) := by decide +kernel
theorem d2_192 : decode method_4_code 192 = .ok (.bipush 7, 2) := by decide +kernel
theorem d2_194 : decode method_4_code 194 = .ok (.iand, 1) := by decide +kernel
theorem d2_195 : decode method_4_code 195 = .ok (.bipush 18, 2) := by decide +kernel
theorem d2_197 : decode method_4_code 197 = .ok (.ishl, 1) := by decide +kernel
theorem d2_198 : decode method_4_code 198 = .ok (.iload_n 1, 1) := by decide +kernel
theorem d2_199 : decode method_4_code 199 = .ok (.bipush 63, 2) := by decide +kernel
theorem d2_201 : decode method_4_code 201 = .ok (.iand, 1) := by decide +kernel
theorem d2_202 : decode method_4_code 202 = .ok (.bipush 12, 2) := by decide +kernel
theorem d2_204 : decode method_4_code 204 = .ok (.ishl, 1) := by decide +kernel
theorem d2_205 : decode method_4_code 205 = .ok (.ior, 1) := by decide +kernel
theorem d2_206 : decode method_4_code 206 = .ok (.iload_n 2, 1) := by decide +kernel
theorem d2_207 : decode method_4_code 207 = .ok (.bipush 63, 2) := by decide +kernel
theorem d2_209 : decode method_4_code 209 = .ok (.iand, 1) := by decide +kernel
theorem d2_210 : decode method_4_code 210 = .ok (.bipush 6, 2) := by decide +kernel
theorem d2_212 : decode method_4_code 212 = .ok (.ishl, 1) := by decide +kernel
theorem d2_213 : decode method_4_code 213 = .ok (.ior, 1) := by decide +kernel
theorem d2_214 : decode method_4_code 214 = .ok (.iload_n 3, 1) := by decide +kernel
theorem d2_215 : decode method_4_code 215 = .ok (.bipush 63, 2) := by decide +kernel
theorem d2_217 : decode method_4_code 217 = .ok (.iand, 1) := by decide +kernel
theorem d2_218 : decode method_4_code 218 = .ok (.ior, 1) := by decide +kernel
theorem d2_219 : decode method_4_code 219 = .ok (.istore 6, 2) := by decide +kernel
theorem d2_221 : decode method_4_code 221 = .ok (.iload 6, 2) := by decide +kernel
theorem d2_223 : decode method_4_code 223 = .ok (.ldc 26, 2) := by decide +kernel
theorem d2_225 : decode method_4_code 225 = .ok (.if_icmp .lt 10, 3) := by decide +kernel
theorem d2_228 : decode method_4_code 228 = .ok (.iload 6, 2) := by decide +kernel
theorem d2_230 : decode method_4_code 230 = .ok (.ldc 27, 2) := by decide +kernel
theorem d2_232 : decode method_4_code 232 = .ok (.if_icmp .le 5, 3) := by decide +kernel
theorem d2_235 : decode method_4_code 235 = .ok (.iconst 0, 1) := by decide +kernel
theorem d2_236 : decode method_4_code 236 = .ok (.ireturn, 1) := by decide +kernel
theorem d2_237 : decode method_4_code 237 = .ok (.iconst 4, 1) := by decide +kernel
theorem d2_238 : decode method_4_code 238 = .ok (.ireturn, 1) := by decide +kernel
theorem pn_2 : plainName "com/example/headwater/headwater/connectors/format/JsonRecordUtf8LengthPinLaw" = true := by first | (simp [plainName, overriddenIn]; done) | decide +kernel
theorem pd_2_0 : parseMethodDescriptor "(I)Z" = some ⟨[.int], some .boolean⟩ := by decide +kernel
theorem ef_2 (m : MethodId) (x0 : Int32) (x1 : Int32) (x2 : Int32) (x3 : Int32) (x4 : Int32) : entryFrame m #[(.int x0), (.int x1), (.int x2), (.int x3), (.int x4)] 7 = mkF m 0 #[.val (.int x0), .val (.int x1), .val (.int x2), .val (.int x3), .val (.int x4), .unset, .unset] [] := by first | (simp [entryFrame, mkF, argsToLocals, Value.category]; done) | rfl
def Q2 (Z : State) (xl : Int32) (y1 : Int32) (y2 : Int32) (y3 : Int32) (xn : Int32) (h0 : Heap) (n0 : Nat) (v : Option Value) (h : Heap) (L : List Loc) : Prop := v = some (.int (own_ex xl y1 y2 y3 xn)) ∧ Fr n0 L ∧ h = h0
set_option maxRecDepth 65536 in
set_option maxHeartbeats 40000000 in
theorem rm2 (l : Launch) (Z : State) (a0 : Array Value) (hw : ∀ d ∈ tables_1, d.before a0 Z = true) (ws : List Jvm.Cond) (xl : Int32) (y1 : Int32) (y2 : Int32) (y3 : Int32) (xn : Int32) (h0 : Heap) (n0 : Nat) (Z0 : n0 ≤ h0.size) :
    MetFree l (⟨"com/example/headwater/headwater/connectors/format/JsonRecordUtf8LengthPinLaw", "expected", "(IIIII)I"⟩ : MethodName) (head1 (Jvm.Cond.code (⟨"com/example/headwater/headwater/connectors/format/JsonRecordUtf8LengthPinLaw", "expected", "(IIIII)I"⟩ : MethodName) method_4_code 7 (some .int) :: ws) ({ frames := 1, cells := 0, slots := 0, locals := 12 } : Room)) (fun a U => a = #[(.int xl), (.int y1), (.int y2), (.int y3), (.int xn)] ∧ Z.Warmed39 U.vm ∧ U.heap = h0) (fun _ _ _ _ _ => True) (fun _ U o U' => ∃ v L, o = .returned v ∧ Q2 Z xl y1 y2 y3 xn h0 n0 v U'.heap L ∧ FrameEnd U o U' L ({ frames := 1, cells := 0, slots := 0, locals := 12 } : Room).cells ({ frames := 1, cells := 0, slots := 0, locals := 12 } : Room).slots) := by
  refine MetFree.of_bodySF (plainFor_of_name pn_2) hisR ?_
  intro p e s m args below meth c s₁ Bd hml0 hP hK
  obtain ⟨rfl, hZ, hh⟩ := hP
  have hx := Bd.exec
  have hby := Bd.bytes
  have hlk : meth.locks = false := BodyLoose.notSynchronized Bd
  have hml : c.maxLocals = 7 := hml0
  have hown : s.vm.findClass "com/example/headwater/headwater/connectors/format/JsonRecordUtf8LengthPinLaw" = some m.cls := findClass_of_methodNamed Bd.named
  have hnm := (name_of_methodNamed Bd.named Bd.method).1
  have X0 : Stand p l e ({ frames := 1, cells := 0, slots := 0, locals := 12 } : Room) s m #[(.int xl), (.int y1), (.int y2), (.int y3), (.int xn)] below meth c s₁ [] 0 0 := Stand.of_body Bd
  have e0 : s₁.heap = h0 := by rw [← hh, Bd.state]; rfl
  have N0 := Fr.nil n0
  show own_Go p e below (own_G s (Q2 Z xl y1 y2 y3 xn h0 n0) ({ frames := 1, cells := 0, slots := 0, locals := 12 } : Room).cells ({ frames := 1, cells := 0, slots := 0, locals := 12 } : Room).slots) (s₁.setTop (entryFrame m #[(.int xl), (.int y1), (.int y2), (.int y3), (.int xn)] 7))
  refine own_st (fun tgt k => castTop (ef_2 m xl y1 y2 y3 xn) k) ?_
  show own_Go p e below _ (s₁.setTop (mkF m 0 #[.val (.int xl), .val (.int y1), .val (.int y2), .val (.int y3), .val (.int xn), .unset, .unset] []))
  refine own_st (V := s₁.setTop (mkF m 8 #[.val (.int xl), .val (.int y1), .val (.int y2), .val (.int y3), .val (.int xn), .unset, .unset] [(.int (192 : Int32)), (.int (xl &&& (224 : Int32)))])) (fun tgt k => ?_) ?_
  · show Steps p.tables e below (s₁.setTop (mkF m 0 #[.val (.int xl), .val (.int y1), .val (.int y2), .val (.int y3), .val (.int xn), .unset, .unset] [])) tgt
    refine XS.iloadN X0.here hx rfl (hb hby d2_0) rfl ?_
    show Steps p.tables e below (s₁.setTop (mkF m 1 #[.val (.int xl), .val (.int y1), .val (.int y2), .val (.int y3), .val (.int xn), .unset, .unset] [(.int xl)])) tgt
    refine XS.sipush X0.here hx rfl (hb hby d2_1) ?_
    show Steps p.tables e below (s₁.setTop (mkF m 4 #[.val (.int xl), .val (.int y1), .val (.int y2), .val (.int y3), .val (.int xn), .unset, .unset] [(.int (224 : Int32)), (.int xl)])) tgt
    refine XS.iand X0.here hx rfl (hb hby d2_4) rfl ?_
    show Steps p.tables e below (s₁.setTop (mkF m 5 #[.val (.int xl), .val (.int y1), .val (.int y2), .val (.int y3), .val (.int xn), .unset, .unset] [(.int (xl &&& (224 : Int32)))])) tgt
    refine XS.sipush X0.here hx rfl (hb hby d2_5) ?_
    exact k
  by_cases hc8 : (xl &&& (224 : Int32)) = (192 : Int32)
  · skip
    refine own_st (V := s₁.setTop (mkF m 57 #[.val (.int xl), .val (.int y1), .val (.int y2), .val (.int y3), .val (.int xn), .val (.int (2 : Int32)), .unset] [(.int xn), (.int (2 : Int32))])) (fun tgt k => ?_) ?_
    · show Steps p.tables e below (s₁.setTop (mkF m 8 #[.val (.int xl), .val (.int y1), .val (.int y2), .val (.int y3), .val (.int xn), .unset, .unset] [(.int (192 : Int32)), (.int (xl &&& (224 : Int32)))])) tgt
      refine XS.icmpNo X0.here hx rfl (hb hby d2_8) rfl (teq hc8).2 ?_
      show Steps p.tables e below (s₁.setTop (mkF m 11 #[.val (.int xl), .val (.int y1), .val (.int y2), .val (.int y3), .val (.int xn), .unset, .unset] [])) tgt
      refine XS.iconst X0.here hx rfl (hb hby d2_11) ?_
      show Steps p.tables e below (s₁.setTop (mkF m 12 #[.val (.int xl), .val (.int y1), .val (.int y2), .val (.int y3), .val (.int xn), .unset, .unset] [(.int (2 : Int32))])) tgt
      refine XS.istore X0.here hx rfl (hb hby d2_12) rfl (l' := #[.val (.int xl), .val (.int y1), .val (.int y2), .val (.int y3), .val (.int xn), .val (.int (2 : Int32)), .unset]) rfl ?_
      show Steps p.tables e below (s₁.setTop (mkF m 14 #[.val (.int xl), .val (.int y1), .val (.int y2), .val (.int y3), .val (.int xn), .val (.int (2 : Int32)), .unset] [])) tgt
      refine XS.goto X0.here hx rfl (pc0 := 14) (pc' := 53) rfl (hb hby d2_14) (by decide) (by decide) ?_
      show Steps p.tables e below (s₁.setTop (mkF m 53 #[.val (.int xl), .val (.int y1), .val (.int y2), .val (.int y3), .val (.int xn), .val (.int (2 : Int32)), .unset] [])) tgt
      refine XS.iload X0.here hx rfl (hb hby d2_53) rfl ?_
      show Steps p.tables e below (s₁.setTop (mkF m 55 #[.val (.int xl), .val (.int y1), .val (.int y2), .val (.int y3), .val (.int xn), .val (.int (2 : Int32)), .unset] [(.int (2 : Int32))])) tgt
      refine XS.iload X0.here hx rfl (hb hby d2_55) rfl ?_
      exact k
    by_cases hc57 : xn < (2 : Int32)
    · skip
      refine own_st (V := s₁.setTop (mkF m 61 #[.val (.int xl), .val (.int y1), .val (.int y2), .val (.int y3), .val (.int xn), .val (.int (2 : Int32)), .unset] [(.int (0 : Int32))])) (fun tgt k => ?_) ?_
      · show Steps p.tables e below (s₁.setTop (mkF m 57 #[.val (.int xl), .val (.int y1), .val (.int y2), .val (.int y3), .val (.int xn), .val (.int (2 : Int32)), .unset] [(.int xn), (.int (2 : Int32))])) tgt
        refine XS.icmpNo X0.here hx rfl (hb hby d2_57) rfl (tlt hc57).2.2.2 ?_
        show Steps p.tables e below (s₁.setTop (mkF m 60 #[.val (.int xl), .val (.int y1), .val (.int y2), .val (.int y3), .val (.int xn), .val (.int (2 : Int32)), .unset] [])) tgt
        refine XS.iconst X0.here hx rfl (hb hby d2_60) ?_
        exact k
      refine own_retI X0 hx hlk Bd.returns (hb hby d2_61) ?_ (by decide) (by decide)
      show Q2 Z xl y1 y2 y3 xn h0 n0 (some (.int (0 : Int32))) s₁.heap _
      rw [e0]
      refine ⟨?_, N0, rfl⟩
      exact congrArg (fun q => some (Value.int q)) (by unfold own_ex; rw [if_pos hc8, if_pos hc57])
    · skip
      refine own_st (V := s₁.setTop (mkF m 63 #[.val (.int xl), .val (.int y1), .val (.int y2), .val (.int y3), .val (.int xn), .val (.int (2 : Int32)), .unset] [(.int y1)])) (fun tgt k => ?_) ?_
      · show Steps p.tables e below (s₁.setTop (mkF m 57 #[.val (.int xl), .val (.int y1), .val (.int y2), .val (.int y3), .val (.int xn), .val (.int (2 : Int32)), .unset] [(.int xn), (.int (2 : Int32))])) tgt
        refine XS.icmpYes X0.here hx rfl (pc0 := 57) (pc' := 62) rfl (hb hby d2_57) rfl (flt hc57).2.2.2 (by decide) (by decide) ?_
        show Steps p.tables e below (s₁.setTop (mkF m 62 #[.val (.int xl), .val (.int y1), .val (.int y2), .val (.int y3), .val (.int xn), .val (.int (2 : Int32)), .unset] [])) tgt
        refine XS.iloadN X0.here hx rfl (hb hby d2_62) rfl ?_
        exact k
      obtain ⟨_, _, ⟨T2, L2, k2, n2⟩, -, X2, ⟨Lc2, hQ2, l2, y2, z2⟩, st2⟩ := Jvm.LawKit.callS X0 hx (y := (⟨"com/example/headwater/headwater/connectors/format/JsonRecordUtf8LengthPinLaw", "cont", "(I)Z"⟩ : MethodName)) hown (mvT hZ (hw _ (List.mem_of_getElem? (i := 10) rfl))) (mvT hZ (hw _ (List.mem_of_getElem? (i := 11) rfl))) (mvT hZ (hw _ (List.mem_of_getElem? (i := 8) rfl))) (mvT hZ (hw _ (List.mem_of_getElem? (i := 12) rfl))) (by decide) (backOf (W := 0) (rm3 l Z a0 hw [] y1 h0 n0 Z0 ) hZ (hw _ (List.mem_of_getElem? (i := 12) rfl)) (hw _ (List.mem_of_getElem? (i := 8) rfl)) (by decide) (by decide)) (g := (mkF m 63 #[.val (.int xl), .val (.int y1), .val (.int y2), .val (.int y3), .val (.int xn), .val (.int (2 : Int32)), .unset] [(.int y1)])) rfl (by rw [hml]; rfl) (argsL := [(.int y1)]) (rest := []) (lenOf pd_2_0 rfl) rfl (by show 2 * 0 + _ ≤ _; exact Nat.le_of_eq rfl) (hb hby d2_63) (fun _ _ => ⟨rfl, e0, (by decide : 0 + 0 ≤ _), (by decide : 0 + 0 ≤ _)⟩)
      dsimp only [Pt.U, Pt.locs, Pt.cells, Pt.slots] at X2 l2 y2 z2 st2 hQ2
      subst l2 y2 z2
      obtain ⟨rfl, N2q, K2⟩ := hQ2
      have N2 := Fr.app N0 N2q
      refine own_st st2 ?_
      show own_Go p e below _ (T2.setTop (mkF m 66 #[.val (.int xl), .val (.int y1), .val (.int y2), .val (.int y3), .val (.int xn), .val (.int (2 : Int32)), .unset] [(.int (own_ct y1))]))
      by_cases hc66 : (own_ct y1) = (0 : Int32)
      · skip
        refine own_st (V := T2.setTop (mkF m 70 #[.val (.int xl), .val (.int y1), .val (.int y2), .val (.int y3), .val (.int xn), .val (.int (2 : Int32)), .unset] [(.int (0 : Int32))])) (fun tgt k => ?_) ?_
        · show Steps p.tables e below (T2.setTop (mkF m 66 #[.val (.int xl), .val (.int y1), .val (.int y2), .val (.int y3), .val (.int xn), .val (.int (2 : Int32)), .unset] [(.int (own_ct y1))])) tgt
          refine XS.ifNo X2.here hx rfl (hb hby d2_66) rfl ((if0 _ _).trans (teq hc66).2) ?_
          show Steps p.tables e below (T2.setTop (mkF m 69 #[.val (.int xl), .val (.int y1), .val (.int y2), .val (.int y3), .val (.int xn), .val (.int (2 : Int32)), .unset] [])) tgt
          refine XS.iconst X2.here hx rfl (hb hby d2_69) ?_
          exact k
        refine own_retI X2 hx hlk Bd.returns (hb hby d2_70) ?_ (by decide) (by decide)
        show Q2 Z xl y1 y2 y3 xn h0 n0 (some (.int (0 : Int32))) T2.heap _
        rw [K2]
        refine ⟨?_, N2, rfl⟩
        exact congrArg (fun q => some (Value.int q)) (by unfold own_ex; rw [if_pos hc8, if_neg hc57, if_pos hc66])
      · skip
        refine own_st (V := T2.setTop (mkF m 126 #[.val (.int xl), .val (.int y1), .val (.int y2), .val (.int y3), .val (.int xn), .val (.int (2 : Int32)), .val (.int (((xl &&& (31 : Int32)) <<< ((6 : Int32) &&& 31)) ||| (y1 &&& (63 : Int32))))] [(.int (128 : Int32)), (.int (((xl &&& (31 : Int32)) <<< ((6 : Int32) &&& 31)) ||| (y1 &&& (63 : Int32))))])) (fun tgt k => ?_) ?_
        · show Steps p.tables e below (T2.setTop (mkF m 66 #[.val (.int xl), .val (.int y1), .val (.int y2), .val (.int y3), .val (.int xn), .val (.int (2 : Int32)), .unset] [(.int (own_ct y1))])) tgt
          refine XS.ifYes X2.here hx rfl (pc0 := 66) (pc' := 71) rfl (hb hby d2_66) rfl ((if0 _ _).trans (feq hc66).2) (by decide) (by decide) ?_
          show Steps p.tables e below (T2.setTop (mkF m 71 #[.val (.int xl), .val (.int y1), .val (.int y2), .val (.int y3), .val (.int xn), .val (.int (2 : Int32)), .unset] [])) tgt
          refine XS.iload X2.here hx rfl (hb hby d2_71) rfl ?_
          show Steps p.tables e below (T2.setTop (mkF m 73 #[.val (.int xl), .val (.int y1), .val (.int y2), .val (.int y3), .val (.int xn), .val (.int (2 : Int32)), .unset] [(.int (2 : Int32))])) tgt
          refine XS.iconst X2.here hx rfl (hb hby d2_73) ?_
          show Steps p.tables e below (T2.setTop (mkF m 74 #[.val (.int xl), .val (.int y1), .val (.int y2), .val (.int y3), .val (.int xn), .val (.int (2 : Int32)), .unset] [(.int (3 : Int32)), (.int (2 : Int32))])) tgt
          refine XS.icmpYes X2.here hx rfl (pc0 := 74) (pc' := 86) rfl (hb hby d2_74) rfl (tlt (by decide : (2 : Int32) < (3 : Int32))).1 (by decide) (by decide) ?_
          show Steps p.tables e below (T2.setTop (mkF m 86 #[.val (.int xl), .val (.int y1), .val (.int y2), .val (.int y3), .val (.int xn), .val (.int (2 : Int32)), .unset] [])) tgt
          refine XS.iload X2.here hx rfl (hb hby d2_86) rfl ?_
          show Steps p.tables e below (T2.setTop (mkF m 88 #[.val (.int xl), .val (.int y1), .val (.int y2), .val (.int y3), .val (.int xn), .val (.int (2 : Int32)), .unset] [(.int (2 : Int32))])) tgt
          refine XS.iconst X2.here hx rfl (hb hby d2_88) ?_
          show Steps p.tables e below (T2.setTop (mkF m 89 #[.val (.int xl), .val (.int y1), .val (.int y2), .val (.int y3), .val (.int xn), .val (.int (2 : Int32)), .unset] [(.int (4 : Int32)), (.int (2 : Int32))])) tgt
          refine XS.icmpYes X2.here hx rfl (pc0 := 89) (pc' := 101) rfl (hb hby d2_89) rfl (feq (by decide : ¬ ((2 : Int32) = (4 : Int32)))).2 (by decide) (by decide) ?_
          show Steps p.tables e below (T2.setTop (mkF m 101 #[.val (.int xl), .val (.int y1), .val (.int y2), .val (.int y3), .val (.int xn), .val (.int (2 : Int32)), .unset] [])) tgt
          refine XS.iload X2.here hx rfl (hb hby d2_101) rfl ?_
          show Steps p.tables e below (T2.setTop (mkF m 103 #[.val (.int xl), .val (.int y1), .val (.int y2), .val (.int y3), .val (.int xn), .val (.int (2 : Int32)), .unset] [(.int (2 : Int32))])) tgt
          refine XS.iconst X2.here hx rfl (hb hby d2_103) ?_
          show Steps p.tables e below (T2.setTop (mkF m 104 #[.val (.int xl), .val (.int y1), .val (.int y2), .val (.int y3), .val (.int xn), .val (.int (2 : Int32)), .unset] [(.int (2 : Int32)), (.int (2 : Int32))])) tgt
          refine XS.icmpNo X2.here hx rfl (hb hby d2_104) rfl (teq (by decide : (2 : Int32) = (2 : Int32))).2 ?_
          show Steps p.tables e below (T2.setTop (mkF m 107 #[.val (.int xl), .val (.int y1), .val (.int y2), .val (.int y3), .val (.int xn), .val (.int (2 : Int32)), .unset] [])) tgt
          refine XS.iloadN X2.here hx rfl (hb hby d2_107) rfl ?_
          show Steps p.tables e below (T2.setTop (mkF m 108 #[.val (.int xl), .val (.int y1), .val (.int y2), .val (.int y3), .val (.int xn), .val (.int (2 : Int32)), .unset] [(.int xl)])) tgt
          refine XS.bipush X2.here hx rfl (hb hby d2_108) ?_
          show Steps p.tables e below (T2.setTop (mkF m 110 #[.val (.int xl), .val (.int y1), .val (.int y2), .val (.int y3), .val (.int xn), .val (.int (2 : Int32)), .unset] [(.int (31 : Int32)), (.int xl)])) tgt
          refine XS.iand X2.here hx rfl (hb hby d2_110) rfl ?_
          show Steps p.tables e below (T2.setTop (mkF m 111 #[.val (.int xl), .val (.int y1), .val (.int y2), .val (.int y3), .val (.int xn), .val (.int (2 : Int32)), .unset] [(.int (xl &&& (31 : Int32)))])) tgt
          refine XS.bipush X2.here hx rfl (hb hby d2_111) ?_
          show Steps p.tables e below (T2.setTop (mkF m 113 #[.val (.int xl), .val (.int y1), .val (.int y2), .val (.int y3), .val (.int xn), .val (.int (2 : Int32)), .unset] [(.int (6 : Int32)), (.int (xl &&& (31 : Int32)))])) tgt
          refine XS.ishl X2.here hx rfl (hb hby d2_113) rfl ?_
          show Steps p.tables e below (T2.setTop (mkF m 114 #[.val (.int xl), .val (.int y1), .val (.int y2), .val (.int y3), .val (.int xn), .val (.int (2 : Int32)), .unset] [(.int ((xl &&& (31 : Int32)) <<< ((6 : Int32) &&& 31)))])) tgt
          refine XS.iloadN X2.here hx rfl (hb hby d2_114) rfl ?_
          show Steps p.tables e below (T2.setTop (mkF m 115 #[.val (.int xl), .val (.int y1), .val (.int y2), .val (.int y3), .val (.int xn), .val (.int (2 : Int32)), .unset] [(.int y1), (.int ((xl &&& (31 : Int32)) <<< ((6 : Int32) &&& 31)))])) tgt
          refine XS.bipush X2.here hx rfl (hb hby d2_115) ?_
          show Steps p.tables e below (T2.setTop (mkF m 117 #[.val (.int xl), .val (.int y1), .val (.int y2), .val (.int y3), .val (.int xn), .val (.int (2 : Int32)), .unset] [(.int (63 : Int32)), (.int y1), (.int ((xl &&& (31 : Int32)) <<< ((6 : Int32) &&& 31)))])) tgt
          refine XS.iand X2.here hx rfl (hb hby d2_117) rfl ?_
          show Steps p.tables e below (T2.setTop (mkF m 118 #[.val (.int xl), .val (.int y1), .val (.int y2), .val (.int y3), .val (.int xn), .val (.int (2 : Int32)), .unset] [(.int (y1 &&& (63 : Int32))), (.int ((xl &&& (31 : Int32)) <<< ((6 : Int32) &&& 31)))])) tgt
          refine XS.ior X2.here hx rfl (hb hby d2_118) rfl ?_
          show Steps p.tables e below (T2.setTop (mkF m 119 #[.val (.int xl), .val (.int y1), .val (.int y2), .val (.int y3), .val (.int xn), .val (.int (2 : Int32)), .unset] [(.int (((xl &&& (31 : Int32)) <<< ((6 : Int32) &&& 31)) ||| (y1 &&& (63 : Int32))))])) tgt
          refine XS.istore X2.here hx rfl (hb hby d2_119) rfl (l' := #[.val (.int xl), .val (.int y1), .val (.int y2), .val (.int y3), .val (.int xn), .val (.int (2 : Int32)), .val (.int (((xl &&& (31 : Int32)) <<< ((6 : Int32) &&& 31)) ||| (y1 &&& (63 : Int32))))]) rfl ?_
          show Steps p.tables e below (T2.setTop (mkF m 121 #[.val (.int xl), .val (.int y1), .val (.int y2), .val (.int y3), .val (.int xn), .val (.int (2 : Int32)), .val (.int (((xl &&& (31 : Int32)) <<< ((6 : Int32) &&& 31)) ||| (y1 &&& (63 : Int32))))] [])) tgt
          refine XS.iload X2.here hx rfl (hb hby d2_121) rfl ?_
          show Steps p.tables e below (T2.setTop (mkF m 123 #[.val (.int xl), .val (.int y1), .val (.int y2), .val (.int y3), .val (.int xn), .val (.int (2 : Int32)), .val (.int (((xl &&& (31 : Int32)) <<< ((6 : Int32) &&& 31)) ||| (y1 &&& (63 : Int32))))] [(.int (((xl &&& (31 : Int32)) <<< ((6 : Int32) &&& 31)) ||| (y1 &&& (63 : Int32))))])) tgt
          refine XS.sipush X2.here hx rfl (hb hby d2_123) ?_
          exact k
        by_cases hc126 : (((xl &&& (31 : Int32)) <<< ((6 : Int32) &&& 31)) ||| (y1 &&& (63 : Int32))) < (128 : Int32)
        · skip
          refine own_st (V := T2.setTop (mkF m 134 #[.val (.int xl), .val (.int y1), .val (.int y2), .val (.int y3), .val (.int xn), .val (.int (2 : Int32)), .val (.int (((xl &&& (31 : Int32)) <<< ((6 : Int32) &&& 31)) ||| (y1 &&& (63 : Int32))))] [(.int (0 : Int32))])) (fun tgt k => ?_) ?_
          · show Steps p.tables e below (T2.setTop (mkF m 126 #[.val (.int xl), .val (.int y1), .val (.int y2), .val (.int y3), .val (.int xn), .val (.int (2 : Int32)), .val (.int (((xl &&& (31 : Int32)) <<< ((6 : Int32) &&& 31)) ||| (y1 &&& (63 : Int32))))] [(.int (128 : Int32)), (.int (((xl &&& (31 : Int32)) <<< ((6 : Int32) &&& 31)) ||| (y1 &&& (63 : Int32))))])) tgt
            refine XS.icmpYes X2.here hx rfl (pc0 := 126) (pc' := 133) rfl (hb hby d2_126) rfl (tlt hc126).1 (by decide) (by decide) ?_
            show Steps p.tables e below (T2.setTop (mkF m 133 #[.val (.int xl), .val (.int y1), .val (.int y2), .val (.int y3), .val (.int xn), .val (.int (2 : Int32)), .val (.int (((xl &&& (31 : Int32)) <<< ((6 : Int32) &&& 31)) ||| (y1 &&& (63 : Int32))))] [])) tgt
            refine XS.iconst X2.here hx rfl (hb hby d2_133) ?_
            exact k
          refine own_retI X2 hx hlk Bd.returns (hb hby d2_134) ?_ (by decide) (by decide)
          show Q2 Z xl y1 y2 y3 xn h0 n0 (some (.int (0 : Int32))) T2.heap _
          rw [K2]
          refine ⟨?_, N2, rfl⟩
          exact congrArg (fun q => some (Value.int q)) (by unfold own_ex; rw [if_pos hc8, if_neg hc57, if_neg hc66, if_pos hc126])
        · skip
          refine own_st (V := T2.setTop (mkF m 134 #[.val (.int xl), .val (.int y1), .val (.int y2), .val (.int y3), .val (.int xn), .val (.int (2 : Int32)), .val (.int (((xl &&& (31 : Int32)) <<< ((6 : Int32) &&& 31)) ||| (y1 &&& (63 : Int32))))] [(.int (2 : Int32))])) (fun tgt k => ?_) ?_
          · show Steps p.tables e below (T2.setTop (mkF m 126 #[.val (.int xl), .val (.int y1), .val (.int y2), .val (.int y3), .val (.int xn), .val (.int (2 : Int32)), .val (.int (((xl &&& (31 : Int32)) <<< ((6 : Int32) &&& 31)) ||| (y1 &&& (63 : Int32))))] [(.int (128 : Int32)), (.int (((xl &&& (31 : Int32)) <<< ((6 : Int32) &&& 31)) ||| (y1 &&& (63 : Int32))))])) tgt
            refine XS.icmpNo X2.here hx rfl (hb hby d2_126) rfl (flt hc126).1 ?_
            show Steps p.tables e below (T2.setTop (mkF m 129 #[.val (.int xl), .val (.int y1), .val (.int y2), .val (.int y3), .val (.int xn), .val (.int (2 : Int32)), .val (.int (((xl &&& (31 : Int32)) <<< ((6 : Int32) &&& 31)) ||| (y1 &&& (63 : Int32))))] [])) tgt
            refine XS.iconst X2.here hx rfl (hb hby d2_129) ?_
            show Steps p.tables e below (T2.setTop (mkF m 130 #[.val (.int xl), .val (.int y1), .val (.int y2), .val (.int y3), .val (.int xn), .val (.int (2 : Int32)), .val (.int (((xl &&& (31 : Int32)) <<< ((6 : Int32) &&& 31)) ||| (y1 &&& (63 : Int32))))] [(.int (2 : Int32))])) tgt
            refine XS.goto X2.here hx rfl (pc0 := 130) (pc' := 134) rfl (hb hby d2_130) (by decide) (by decide) ?_
            exact k
          refine own_retI X2 hx hlk Bd.returns (hb hby d2_134) ?_ (by decide) (by decide)
          show Q2 Z xl y1 y2 y3 xn h0 n0 (some (.int (2 : Int32))) T2.heap _
          rw [K2]
          refine ⟨?_, N2, rfl⟩
          exact congrArg (fun q => some (Value.int q)) (by unfold own_ex; rw [if_pos hc8, if_neg hc57, if_neg hc66, if_neg hc126])
  · skip
    refine own_st (V := s₁.setTop (mkF m 25 #[.val (.int xl), .val (.int y1), .val (.int y2), .val (.int y3), .val (.int xn), .unset, .unset] [(.int (224 : Int32)), (.int (xl &&& (240 : Int32)))])) (fun tgt k => ?_) ?_
    · show Steps p.tables e below (s₁.setTop (mkF m 8 #[.val (.int xl), .val (.int y1), .val (.int y2), .val (.int y3), .val (.int xn), .unset, .unset] [(.int (192 : Int32)), (.int (xl &&& (224 : Int32)))])) tgt
      refine XS.icmpYes X0.here hx rfl (pc0 := 8) (pc' := 17) rfl (hb hby d2_8) rfl (feq hc8).2 (by decide) (by decide) ?_
      show Steps p.tables e below (s₁.setTop (mkF m 17 #[.val (.int xl), .val (.int y1), .val (.int y2), .val (.int y3), .val (.int xn), .unset, .unset] [])) tgt
      refine XS.iloadN X0.here hx rfl (hb hby d2_17) rfl ?_
      show Steps p.tables e below (s₁.setTop (mkF m 18 #[.val (.int xl), .val (.int y1), .val (.int y2), .val (.int y3), .val (.int xn), .unset, .unset] [(.int xl)])) tgt
      refine XS.sipush X0.here hx rfl (hb hby d2_18) ?_
      show Steps p.tables e below (s₁.setTop (mkF m 21 #[.val (.int xl), .val (.int y1), .val (.int y2), .val (.int y3), .val (.int xn), .unset, .unset] [(.int (240 : Int32)), (.int xl)])) tgt
      refine XS.iand X0.here hx rfl (hb hby d2_21) rfl ?_
      show Steps p.tables e below (s₁.setTop (mkF m 22 #[.val (.int xl), .val (.int y1), .val (.int y2), .val (.int y3), .val (.int xn), .unset, .unset] [(.int (xl &&& (240 : Int32)))])) tgt
      refine XS.sipush X0.here hx rfl (hb hby d2_22) ?_
      exact k
    by_cases hc25 : (xl &&& (240 : Int32)) = (224 : Int32)
    · skip
      refine own_st (V := s₁.setTop (mkF m 57 #[.val (.int xl), .val (.int y1), .val (.int y2), .val (.int y3), .val (.int xn), .val (.int (3 : Int32)), .unset] [(.int xn), (.int (3 : Int32))])) (fun tgt k => ?_) ?_
      · show Steps p.tables e below (s₁.setTop (mkF m 25 #[.val (.int xl), .val (.int y1), .val (.int y2), .val (.int y3), .val (.int xn), .unset, .unset] [(.int (224 : Int32)), (.int (xl &&& (240 : Int32)))])) tgt
        refine XS.icmpNo X0.here hx rfl (hb hby d2_25) rfl (teq hc25).2 ?_
        show Steps p.tables e below (s₁.setTop (mkF m 28 #[.val (.int xl), .val (.int y1), .val (.int y2), .val (.int y3), .val (.int xn), .unset, .unset] [])) tgt
        refine XS.iconst X0.here hx rfl (hb hby d2_28) ?_
        show Steps p.tables e below (s₁.setTop (mkF m 29 #[.val (.int xl), .val (.int y1), .val (.int y2), .val (.int y3), .val (.int xn), .unset, .unset] [(.int (3 : Int32))])) tgt
        refine XS.istore X0.here hx rfl (hb hby d2_29) rfl (l' := #[.val (.int xl), .val (.int y1), .val (.int y2), .val (.int y3), .val (.int xn), .val (.int (3 : Int32)), .unset]) rfl ?_
        show Steps p.tables e below (s₁.setTop (mkF m 31 #[.val (.int xl), .val (.int y1), .val (.int y2), .val (.int y3), .val (.int xn), .val (.int (3 : Int32)), .unset] [])) tgt
        refine XS.goto X0.here hx rfl (pc0 := 31) (pc' := 53) rfl (hb hby d2_31) (by decide) (by decide) ?_
        show Steps p.tables e below (s₁.setTop (mkF m 53 #[.val (.int xl), .val (.int y1), .val (.int y2), .val (.int y3), .val (.int xn), .val (.int (3 : Int32)), .unset] [])) tgt
        refine XS.iload X0.here hx rfl (hb hby d2_53) rfl ?_
        show Steps p.tables e below (s₁.setTop (mkF m 55 #[.val (.int xl), .val (.int y1), .val (.int y2), .val (.int y3), .val (.int xn), .val (.int (3 : Int32)), .unset] [(.int (3 : Int32))])) tgt
        refine XS.iload X0.here hx rfl (hb hby d2_55) rfl ?_
        exact k
      by_cases hc57 : xn < (3 : Int32)
      · skip
        refine own_st (V := s₁.setTop (mkF m 61 #[.val (.int xl), .val (.int y1), .val (.int y2), .val (.int y3), .val (.int xn), .val (.int (3 : Int32)), .unset] [(.int (0 : Int32))])) (fun tgt k => ?_) ?_
        · show Steps p.tables e below (s₁.setTop (mkF m 57 #[.val (.int xl), .val (.int y1), .val (.int y2), .val (.int y3), .val (.int xn), .val (.int (3 : Int32)), .unset] [(.int xn), (.int (3 : Int32))])) tgt
          refine XS.icmpNo X0.here hx rfl (hb hby d2_57) rfl (tlt hc57).2.2.2 ?_
          show Steps p.tables e below (s₁.setTop (mkF m 60 #[.val (.int xl), .val (.int y1), .val (.int y2), .val (.int y3), .val (.int xn), .val (.int (3 : Int32)), .unset] [])) tgt
          refine XS.iconst X0.here hx rfl (hb hby d2_60) ?_
          exact k
        refine own_retI X0 hx hlk Bd.returns (hb hby d2_61) ?_ (by decide) (by decide)
        show Q2 Z xl y1 y2 y3 xn h0 n0 (some (.int (0 : Int32))) s₁.heap _
        rw [e0]
        refine ⟨?_, N0, rfl⟩
        exact congrArg (fun q => some (Value.int q)) (by unfold own_ex; rw [if_neg hc8, if_pos hc25, if_pos hc57])
      · skip
        refine own_st (V := s₁.setTop (mkF m 63 #[.val (.int xl), .val (.int y1), .val (.int y2), .val (.int y3), .val (.int xn), .val (.int (3 : Int32)), .unset] [(.int y1)])) (fun tgt k => ?_) ?_
        · show Steps p.tables e below (s₁.setTop (mkF m 57 #[.val (.int xl), .val (.int y1), .val (.int y2), .val (.int y3), .val (.int xn), .val (.int (3 : Int32)), .unset] [(.int xn), (.int (3 : Int32))])) tgt
          refine XS.icmpYes X0.here hx rfl (pc0 := 57) (pc' := 62) rfl (hb hby d2_57) rfl (flt hc57).2.2.2 (by decide) (by decide) ?_
          show Steps p.tables e below (s₁.setTop (mkF m 62 #[.val (.int xl), .val (.int y1), .val (.int y2), .val (.int y3), .val (.int xn), .val (.int (3 : Int32)), .unset] [])) tgt
          refine XS.iloadN X0.here hx rfl (hb hby d2_62) rfl ?_
          exact k
        obtain ⟨_, _, ⟨T7, L7, k7, n7⟩, -, X7, ⟨Lc7, hQ7, l7, y7, z7⟩, st7⟩ := Jvm.LawKit.callS X0 hx (y := (⟨"com/example/headwater/headwater/connectors/format/JsonRecordUtf8LengthPinLaw", "cont", "(I)Z"⟩ : MethodName)) hown (mvT hZ (hw _ (List.mem_of_getElem? (i := 10) rfl))) (mvT hZ (hw _ (List.mem_of_getElem? (i := 11) rfl))) (mvT hZ (hw _ (List.mem_of_getElem? (i := 8) rfl))) (mvT hZ (hw _ (List.mem_of_getElem? (i := 12) rfl))) (by decide) (backOf (W := 0) (rm3 l Z a0 hw [] y1 h0 n0 Z0 ) hZ (hw _ (List.mem_of_getElem? (i := 12) rfl)) (hw _ (List.mem_of_getElem? (i := 8) rfl)) (by decide) (by decide)) (g := (mkF m 63 #[.val (.int xl), .val (.int y1), .val (.int y2), .val (.int y3), .val (.int xn), .val (.int (3 : Int32)), .unset] [(.int y1)])) rfl (by rw [hml]; rfl) (argsL := [(.int y1)]) (rest := []) (lenOf pd_2_0 rfl) rfl (by show 2 * 0 + _ ≤ _; exact Nat.le_of_eq rfl) (hb hby d2_63) (fun _ _ => ⟨rfl, e0, (by decide : 0 + 0 ≤ _), (by decide : 0 + 0 ≤ _)⟩)
        dsimp only [Pt.U, Pt.locs, Pt.cells, Pt.slots] at X7 l7 y7 z7 st7 hQ7
        subst l7 y7 z7
        obtain ⟨rfl, N7q, K7⟩ := hQ7
        have N7 := Fr.app N0 N7q
        refine own_st st7 ?_
        show own_Go p e below _ (T7.setTop (mkF m 66 #[.val (.int xl), .val (.int y1), .val (.int y2), .val (.int y3), .val (.int xn), .val (.int (3 : Int32)), .unset] [(.int (own_ct y1))]))
        by_cases hc66 : (own_ct y1) = (0 : Int32)
        · skip
          refine own_st (V := T7.setTop (mkF m 70 #[.val (.int xl), .val (.int y1), .val (.int y2), .val (.int y3), .val (.int xn), .val (.int (3 : Int32)), .unset] [(.int (0 : Int32))])) (fun tgt k => ?_) ?_
          · show Steps p.tables e below (T7.setTop (mkF m 66 #[.val (.int xl), .val (.int y1), .val (.int y2), .val (.int y3), .val (.int xn), .val (.int (3 : Int32)), .unset] [(.int (own_ct y1))])) tgt
            refine XS.ifNo X7.here hx rfl (hb hby d2_66) rfl ((if0 _ _).trans (teq hc66).2) ?_
            show Steps p.tables e below (T7.setTop (mkF m 69 #[.val (.int xl), .val (.int y1), .val (.int y2), .val (.int y3), .val (.int xn), .val (.int (3 : Int32)), .unset] [])) tgt
            refine XS.iconst X7.here hx rfl (hb hby d2_69) ?_
            exact k
          refine own_retI X7 hx hlk Bd.returns (hb hby d2_70) ?_ (by decide) (by decide)
          show Q2 Z xl y1 y2 y3 xn h0 n0 (some (.int (0 : Int32))) T7.heap _
          rw [K7]
          refine ⟨?_, N7, rfl⟩
          exact congrArg (fun q => some (Value.int q)) (by unfold own_ex; rw [if_neg hc8, if_pos hc25, if_neg hc57, if_pos hc66])
        · skip
          refine own_st (V := T7.setTop (mkF m 78 #[.val (.int xl), .val (.int y1), .val (.int y2), .val (.int y3), .val (.int xn), .val (.int (3 : Int32)), .unset] [(.int y2)])) (fun tgt k => ?_) ?_
          · show Steps p.tables e below (T7.setTop (mkF m 66 #[.val (.int xl), .val (.int y1), .val (.int y2), .val (.int y3), .val (.int xn), .val (.int (3 : Int32)), .unset] [(.int (own_ct y1))])) tgt
            refine XS.ifYes X7.here hx rfl (pc0 := 66) (pc' := 71) rfl (hb hby d2_66) rfl ((if0 _ _).trans (feq hc66).2) (by decide) (by decide) ?_
            show Steps p.tables e below (T7.setTop (mkF m 71 #[.val (.int xl), .val (.int y1), .val (.int y2), .val (.int y3), .val (.int xn), .val (.int (3 : Int32)), .unset] [])) tgt
            refine XS.iload X7.here hx rfl (hb hby d2_71) rfl ?_
            show Steps p.tables e below (T7.setTop (mkF m 73 #[.val (.int xl), .val (.int y1), .val (.int y2), .val (.int y3), .val (.int xn), .val (.int (3 : Int32)), .unset] [(.int (3 : Int32))])) tgt
            refine XS.iconst X7.here hx rfl (hb hby d2_73) ?_
            show Steps p.tables e below (T7.setTop (mkF m 74 #[.val (.int xl), .val (.int y1), .val (.int y2), .val (.int y3), .val (.int xn), .val (.int (3 : Int32)), .unset] [(.int (3 : Int32)), (.int (3 : Int32))])) tgt
            refine XS.icmpNo X7.here hx rfl (hb hby d2_74) rfl (flt (by decide : ¬ ((3 : Int32) < (3 : Int32)))).1 ?_
            show Steps p.tables e below (T7.setTop (mkF m 77 #[.val (.int xl), .val (.int y1), .val (.int y2), .val (.int y3), .val (.int xn), .val (.int (3 : Int32)), .unset] [])) tgt
            refine XS.iloadN X7.here hx rfl (hb hby d2_77) rfl ?_
            exact k
          obtain ⟨_, _, ⟨T9, L9, k9, n9⟩, -, X9, ⟨Lc9, hQ9, l9, y9, z9⟩, st9⟩ := Jvm.LawKit.callS X7 hx (y := (⟨"com/example/headwater/headwater/connectors/format/JsonRecordUtf8LengthPinLaw", "cont", "(I)Z"⟩ : MethodName)) hown (mvT hZ (hw _ (List.mem_of_getElem? (i := 10) rfl))) (mvT hZ (hw _ (List.mem_of_getElem? (i := 11) rfl))) (mvT hZ (hw _ (List.mem_of_getElem? (i := 8) rfl))) (mvT hZ (hw _ (List.mem_of_getElem? (i := 12) rfl))) (by decide) (backOf (W := 0) (rm3 l Z a0 hw [] y2 h0 n0 Z0 ) hZ (hw _ (List.mem_of_getElem? (i := 12) rfl)) (hw _ (List.mem_of_getElem? (i := 8) rfl)) (by decide) (by decide)) (g := (mkF m 78 #[.val (.int xl), .val (.int y1), .val (.int y2), .val (.int y3), .val (.int xn), .val (.int (3 : Int32)), .unset] [(.int y2)])) rfl (by rw [hml]; rfl) (argsL := [(.int y2)]) (rest := []) (lenOf pd_2_0 rfl) rfl (by show 2 * 0 + _ ≤ _; exact Nat.le_of_eq rfl) (hb hby d2_78) (fun _ _ => ⟨rfl, K7, (by decide : 0 + 0 ≤ _), (by decide : 0 + 0 ≤ _)⟩)
          dsimp only [Pt.U, Pt.locs, Pt.cells, Pt.slots] at X9 l9 y9 z9 st9 hQ9
          subst l9 y9 z9
          obtain ⟨rfl, N9q, K9⟩ := hQ9
          have N9 := Fr.app N7 N9q
          refine own_st st9 ?_
          show own_Go p e below _ (T9.setTop (mkF m 81 #[.val (.int xl), .val (.int y1), .val (.int y2), .val (.int y3), .val (.int xn), .val (.int (3 : Int32)), .unset] [(.int (own_ct y2))]))
          by_cases hc81 : (own_ct y2) = (0 : Int32)
          · skip
            refine own_st (V := T9.setTop (mkF m 85 #[.val (.int xl), .val (.int y1), .val (.int y2), .val (.int y3), .val (.int xn), .val (.int (3 : Int32)), .unset] [(.int (0 : Int32))])) (fun tgt k => ?_) ?_
            · show Steps p.tables e below (T9.setTop (mkF m 81 #[.val (.int xl), .val (.int y1), .val (.int y2), .val (.int y3), .val (.int xn), .val (.int (3 : Int32)), .unset] [(.int (own_ct y2))])) tgt
              refine XS.ifNo X9.here hx rfl (hb hby d2_81) rfl ((if0 _ _).trans (teq hc81).2) ?_
              show Steps p.tables e below (T9.setTop (mkF m 84 #[.val (.int xl), .val (.int y1), .val (.int y2), .val (.int y3), .val (.int xn), .val (.int (3 : Int32)), .unset] [])) tgt
              refine XS.iconst X9.here hx rfl (hb hby d2_84) ?_
              exact k
            refine own_retI X9 hx hlk Bd.returns (hb hby d2_85) ?_ (by decide) (by decide)
            show Q2 Z xl y1 y2 y3 xn h0 n0 (some (.int (0 : Int32))) T9.heap _
            rw [K9]
            refine ⟨?_, N9, rfl⟩
            exact congrArg (fun q => some (Value.int q)) (by unfold own_ex; rw [if_neg hc8, if_pos hc25, if_neg hc57, if_neg hc66, if_pos hc81])
          · skip
            refine own_st (V := T9.setTop (mkF m 168 #[.val (.int xl), .val (.int y1), .val (.int y2), .val (.int y3), .val (.int xn), .val (.int (3 : Int32)), .val (.int ((((xl &&& (15 : Int32)) <<< ((12 : Int32) &&& 31)) ||| ((y1 &&& (63 : Int32)) <<< ((6 : Int32) &&& 31))) ||| (y2 &&& (63 : Int32))))] [(.int (2048 : Int32)), (.int ((((xl &&& (15 : Int32)) <<< ((12 : Int32) &&& 31)) ||| ((y1 &&& (63 : Int32)) <<< ((6 : Int32) &&& 31))) ||| (y2 &&& (63 : Int32))))])) (fun tgt k => ?_) ?_
            · show Steps p.tables e below (T9.setTop (mkF m 81 #[.val (.int xl), .val (.int y1), .val (.int y2), .val (.int y3), .val (.int xn), .val (.int (3 : Int32)), .unset] [(.int (own_ct y2))])) tgt
              refine XS.ifYes X9.here hx rfl (pc0 := 81) (pc' := 86) rfl (hb hby d2_81) rfl ((if0 _ _).trans (feq hc81).2) (by decide) (by decide) ?_
              show Steps p.tables e below (T9.setTop (mkF m 86 #[.val (.int xl), .val (.int y1), .val (.int y2), .val (.int y3), .val (.int xn), .val (.int (3 : Int32)), .unset] [])) tgt
              refine XS.iload X9.here hx rfl (hb hby d2_86) rfl ?_
              show Steps p.tables e below (T9.setTop (mkF m 88 #[.val (.int xl), .val (.int y1), .val (.int y2), .val (.int y3), .val (.int xn), .val (.int (3 : Int32)), .unset] [(.int (3 : Int32))])) tgt
              refine XS.iconst X9.here hx rfl (hb hby d2_88) ?_
              show Steps p.tables e below (T9.setTop (mkF m 89 #[.val (.int xl), .val (.int y1), .val (.int y2), .val (.int y3), .val (.int xn), .val (.int (3 : Int32)), .unset] [(.int (4 : Int32)), (.int (3 : Int32))])) tgt
              refine XS.icmpYes X9.here hx rfl (pc0 := 89) (pc' := 101) rfl (hb hby d2_89) rfl (feq (by decide : ¬ ((3 : Int32) = (4 : Int32)))).2 (by decide) (by decide) ?_
              show Steps p.tables e below (T9.setTop (mkF m 101 #[.val (.int xl), .val (.int y1), .val (.int y2), .val (.int y3), .val (.int xn), .val (.int (3 : Int32)), .unset] [])) tgt
              refine XS.iload X9.here hx rfl (hb hby d2_101) rfl ?_
              show Steps p.tables e below (T9.setTop (mkF m 103 #[.val (.int xl), .val (.int y1), .val (.int y2), .val (.int y3), .val (.int xn), .val (.int (3 : Int32)), .unset] [(.int (3 : Int32))])) tgt
              refine XS.iconst X9.here hx rfl (hb hby d2_103) ?_
              show Steps p.tables e below (T9.setTop (mkF m 104 #[.val (.int xl), .val (.int y1), .val (.int y2), .val (.int y3), .val (.int xn), .val (.int (3 : Int32)), .unset] [(.int (2 : Int32)), (.int (3 : Int32))])) tgt
              refine XS.icmpYes X9.here hx rfl (pc0 := 104) (pc' := 135) rfl (hb hby d2_104) rfl (feq (by decide : ¬ ((3 : Int32) = (2 : Int32)))).2 (by decide) (by decide) ?_
              show Steps p.tables e below (T9.setTop (mkF m 135 #[.val (.int xl), .val (.int y1), .val (.int y2), .val (.int y3), .val (.int xn), .val (.int (3 : Int32)), .unset] [])) tgt
              refine XS.iload X9.here hx rfl (hb hby d2_135) rfl ?_
              show Steps p.tables e below (T9.setTop (mkF m 137 #[.val (.int xl), .val (.int y1), .val (.int y2), .val (.int y3), .val (.int xn), .val (.int (3 : Int32)), .unset] [(.int (3 : Int32))])) tgt
              refine XS.iconst X9.here hx rfl (hb hby d2_137) ?_
              show Steps p.tables e below (T9.setTop (mkF m 138 #[.val (.int xl), .val (.int y1), .val (.int y2), .val (.int y3), .val (.int xn), .val (.int (3 : Int32)), .unset] [(.int (3 : Int32)), (.int (3 : Int32))])) tgt
              refine XS.icmpNo X9.here hx rfl (hb hby d2_138) rfl (teq (by decide : (3 : Int32) = (3 : Int32))).2 ?_
              show Steps p.tables e below (T9.setTop (mkF m 141 #[.val (.int xl), .val (.int y1), .val (.int y2), .val (.int y3), .val (.int xn), .val (.int (3 : Int32)), .unset] [])) tgt
              refine XS.iloadN X9.here hx rfl (hb hby d2_141) rfl ?_
              show Steps p.tables e below (T9.setTop (mkF m 142 #[.val (.int xl), .val (.int y1), .val (.int y2), .val (.int y3), .val (.int xn), .val (.int (3 : Int32)), .unset] [(.int xl)])) tgt
              refine XS.bipush X9.here hx rfl (hb hby d2_142) ?_
              show Steps p.tables e below (T9.setTop (mkF m 144 #[.val (.int xl), .val (.int y1), .val (.int y2), .val (.int y3), .val (.int xn), .val (.int (3 : Int32)), .unset] [(.int (15 : Int32)), (.int xl)])) tgt
              refine XS.iand X9.here hx rfl (hb hby d2_144) rfl ?_
              show Steps p.tables e below (T9.setTop (mkF m 145 #[.val (.int xl), .val (.int y1), .val (.int y2), .val (.int y3), .val (.int xn), .val (.int (3 : Int32)), .unset] [(.int (xl &&& (15 : Int32)))])) tgt
              refine XS.bipush X9.here hx rfl (hb hby d2_145) ?_
              show Steps p.tables e below (T9.setTop (mkF m 147 #[.val (.int xl), .val (.int y1), .val (.int y2), .val (.int y3), .val (.int xn), .val (.int (3 : Int32)), .unset] [(.int (12 : Int32)), (.int (xl &&& (15 : Int32)))])) tgt
              refine XS.ishl X9.here hx rfl (hb hby d2_147) rfl ?_
              show Steps p.tables e below (T9.setTop (mkF m 148 #[.val (.int xl), .val (.int y1), .val (.int y2), .val (.int y3), .val (.int xn), .val (.int (3 : Int32)), .unset] [(.int ((xl &&& (15 : Int32)) <<< ((12 : Int32) &&& 31)))])) tgt
              refine XS.iloadN X9.here hx rfl (hb hby d2_148) rfl ?_
              show Steps p.tables e below (T9.setTop (mkF m 149 #[.val (.int xl), .val (.int y1), .val (.int y2), .val (.int y3), .val (.int xn), .val (.int (3 : Int32)), .unset] [(.int y1), (.int ((xl &&& (15 : Int32)) <<< ((12 : Int32) &&& 31)))])) tgt
              refine XS.bipush X9.here hx rfl (hb hby d2_149) ?_
              show Steps p.tables e below (T9.setTop (mkF m 151 #[.val (.int xl), .val (.int y1), .val (.int y2), .val (.int y3), .val (.int xn), .val (.int (3 : Int32)), .unset] [(.int (63 : Int32)), (.int y1), (.int ((xl &&& (15 : Int32)) <<< ((12 : Int32) &&& 31)))])) tgt
              refine XS.iand X9.here hx rfl (hb hby d2_151) rfl ?_
              show Steps p.tables e below (T9.setTop (mkF m 152 #[.val (.int xl), .val (.int y1), .val (.int y2), .val (.int y3), .val (.int xn), .val (.int (3 : Int32)), .unset] [(.int (y1 &&& (63 : Int32))), (.int ((xl &&& (15 : Int32)) <<< ((12 : Int32) &&& 31)))])) tgt
              refine XS.bipush X9.here hx rfl (hb hby d2_152) ?_
              show Steps p.tables e below (T9.setTop (mkF m 154 #[.val (.int xl), .val (.int y1), .val (.int y2), .val (.int y3), .val (.int xn), .val (.int (3 : Int32)), .unset] [(.int (6 : Int32)), (.int (y1 &&& (63 : Int32))), (.int ((xl &&& (15 : Int32)) <<< ((12 : Int32) &&& 31)))])) tgt
              refine XS.ishl X9.here hx rfl (hb hby d2_154) rfl ?_
              show Steps p.tables e below (T9.setTop (mkF m 155 #[.val (.int xl), .val (.int y1), .val (.int y2), .val (.int y3), .val (.int xn), .val (.int (3 : Int32)), .unset] [(.int ((y1 &&& (63 : Int32)) <<< ((6 : Int32) &&& 31))), (.int ((xl &&& (15 : Int32)) <<< ((12 : Int32) &&& 31)))])) tgt
              refine XS.ior X9.here hx rfl (hb hby d2_155) rfl ?_
              show Steps p.tables e below (T9.setTop (mkF m 156 #[.val (.int xl), .val (.int y1), .val (.int y2), .val (.int y3), .val (.int xn), .val (.int (3 : Int32)), .unset] [(.int (((xl &&& (15 : Int32)) <<< ((12 : Int32) &&& 31)) ||| ((y1 &&& (63 : Int32)) <<< ((6 : Int32) &&& 31))))])) tgt
              refine XS.iloadN X9.here hx rfl (hb hby d2_156) rfl ?_
              show Steps p.tables e below (T9.setTop (mkF m 157 #[.val (.int xl), .val (.int y1), .val (.int y2), .val (.int y3), .val (.int xn), .val (.int (3 : Int32)), .unset] [(.int y2), (.int (((xl &&& (15 : Int32)) <<< ((12 : Int32) &&& 31)) ||| ((y1 &&& (63 : Int32)) <<< ((6 : Int32) &&& 31))))])) tgt
              refine XS.bipush X9.here hx rfl (hb hby d2_157) ?_
              show Steps p.tables e below (T9.setTop (mkF m 159 #[.val (.int xl), .val (.int y1), .val (.int y2), .val (.int y3), .val (.int xn), .val (.int (3 : Int32)), .unset] [(.int (63 : Int32)), (.int y2), (.int (((xl &&& (15 : Int32)) <<< ((12 : Int32) &&& 31)) ||| ((y1 &&& (63 : Int32)) <<< ((6 : Int32) &&& 31))))])) tgt
              refine XS.iand X9.here hx rfl (hb hby d2_159) rfl ?_
              show Steps p.tables e below (T9.setTop (mkF m 160 #[.val (.int xl), .val (.int y1), .val (.int y2), .val (.int y3), .val (.int xn), .val (.int (3 : Int32)), .unset] [(.int (y2 &&& (63 : Int32))), (.int (((xl &&& (15 : Int32)) <<< ((12 : Int32) &&& 31)) ||| ((y1 &&& (63 : Int32)) <<< ((6 : Int32) &&& 31))))])) tgt
              refine XS.ior X9.here hx rfl (hb hby d2_160) rfl ?_
              show Steps p.tables e below (T9.setTop (mkF m 161 #[.val (.int xl), .val (.int y1), .val (.int y2), .val (.int y3), .val (.int xn), .val (.int (3 : Int32)), .unset] [(.int ((((xl &&& (15 : Int32)) <<< ((12 : Int32) &&& 31)) ||| ((y1 &&& (63 : Int32)) <<< ((6 : Int32) &&& 31))) ||| (y2 &&& (63 : Int32))))])) tgt
              refine XS.istore X9.here hx rfl (hb hby d2_161) rfl (l' := #[.val (.int xl), .val (.int y1), .val (.int y2), .val (.int y3), .val (.int xn), .val (.int (3 : Int32)), .val (.int ((((xl &&& (15 : Int32)) <<< ((12 : Int32) &&& 31)) ||| ((y1 &&& (63 : Int32)) <<< ((6 : Int32) &&& 31))) ||| (y2 &&& (63 : Int32))))]) rfl ?_
              show Steps p.tables e below (T9.setTop (mkF m 163 #[.val (.int xl), .val (.int y1), .val (.int y2), .val (.int y3), .val (.int xn), .val (.int (3 : Int32)), .val (.int ((((xl &&& (15 : Int32)) <<< ((12 : Int32) &&& 31)) ||| ((y1 &&& (63 : Int32)) <<< ((6 : Int32) &&& 31))) ||| (y2 &&& (63 : Int32))))] [])) tgt
              refine XS.iload X9.here hx rfl (hb hby d2_163) rfl ?_
              show Steps p.tables e below (T9.setTop (mkF m 165 #[.val (.int xl), .val (.int y1), .val (.int y2), .val (.int y3), .val (.int xn), .val (.int (3 : Int32)), .val (.int ((((xl &&& (15 : Int32)) <<< ((12 : Int32) &&& 31)) ||| ((y1 &&& (63 : Int32)) <<< ((6 : Int32) &&& 31))) ||| (y2 &&& (63 : Int32))))] [(.int ((((xl &&& (15 : Int32)) <<< ((12 : Int32) &&& 31)) ||| ((y1 &&& (63 : Int32)) <<< ((6 : Int32) &&& 31))) ||| (y2 &&& (63 : Int32))))])) tgt
              refine XS.sipush X9.here hx rfl (hb hby d2_165) ?_
              exact k
            by_cases hc168 : ((((xl &&& (15 : Int32)) <<< ((12 : Int32) &&& 31)) ||| ((y1 &&& (63 : Int32)) <<< ((6 : Int32) &&& 31))) ||| (y2 &&& (63 : Int32))) < (2048 : Int32)
            · skip
              refine own_st (V := T9.setTop (mkF m 172 #[.val (.int xl), .val (.int y1), .val (.int y2), .val (.int y3), .val (.int xn), .val (.int (3 : Int32)), .val (.int ((((xl &&& (15 : Int32)) <<< ((12 : Int32) &&& 31)) ||| ((y1 &&& (63 : Int32)) <<< ((6 : Int32) &&& 31))) ||| (y2 &&& (63 : Int32))))] [(.int (0 : Int32))])) (fun tgt k => ?_) ?_
              · show Steps p.tables e below (T9.setTop (mkF m 168 #[.val (.int xl), .val (.int y1), .val (.int y2), .val (.int y3), .val (.int xn), .val (.int (3 : Int32)), .val (.int ((((xl &&& (15 : Int32)) <<< ((12 : Int32) &&& 31)) ||| ((y1 &&& (63 : Int32)) <<< ((6 : Int32) &&& 31))) ||| (y2 &&& (63 : Int32))))] [(.int (2048 : Int32)), (.int ((((xl &&& (15 : Int32)) <<< ((12 : Int32) &&& 31)) ||| ((y1 &&& (63 : Int32)) <<< ((6 : Int32) &&& 31))) ||| (y2 &&& (63 : Int32))))])) tgt
                refine XS.icmpNo X9.here hx rfl (hb hby d2_168) rfl (tlt hc168).2.1 ?_
                show Steps p.tables e below (T9.setTop (mkF m 171 #[.val (.int xl), .val (.int y1), .val (.int y2), .val (.int y3), .val (.int xn), .val (.int (3 : Int32)), .val (.int ((((xl &&& (15 : Int32)) <<< ((12 : Int32) &&& 31)) ||| ((y1 &&& (63 : Int32)) <<< ((6 : Int32) &&& 31))) ||| (y2 &&& (63 : Int32))))] [])) tgt
                refine XS.iconst X9.here hx rfl (hb hby d2_171) ?_
                exact k
              refine own_retI X9 hx hlk Bd.returns (hb hby d2_172) ?_ (by decide) (by decide)
              show Q2 Z xl y1 y2 y3 xn h0 n0 (some (.int (0 : Int32))) T9.heap _
              rw [K9]
              refine ⟨?_, N9, rfl⟩
              exact congrArg (fun q => some (Value.int q)) (by unfold own_ex; rw [if_neg hc8, if_pos hc25, if_neg hc57, if_neg hc66, if_neg hc81, if_pos hc168])
            · skip
              refine own_st (V := T9.setTop (mkF m 177 #[.val (.int xl), .val (.int y1), .val (.int y2), .val (.int y3), .val (.int xn), .val (.int (3 : Int32)), .val (.int ((((xl &&& (15 : Int32)) <<< ((12 : Int32) &&& 31)) ||| ((y1 &&& (63 : Int32)) <<< ((6 : Int32) &&& 31))) ||| (y2 &&& (63 : Int32))))] [(.int (55296 : Int32)), (.int ((((xl &&& (15 : Int32)) <<< ((12 : Int32) &&& 31)) ||| ((y1 &&& (63 : Int32)) <<< ((6 : Int32) &&& 31))) ||| (y2 &&& (63 : Int32))))])) (fun tgt k => ?_) ?_
              · show Steps p.tables e below (T9.setTop (mkF m 168 #[.val (.int xl), .val (.int y1), .val (.int y2), .val (.int y3), .val (.int xn), .val (.int (3 : Int32)), .val (.int ((((xl &&& (15 : Int32)) <<< ((12 : Int32) &&& 31)) ||| ((y1 &&& (63 : Int32)) <<< ((6 : Int32) &&& 31))) ||| (y2 &&& (63 : Int32))))] [(.int (2048 : Int32)), (.int ((((xl &&& (15 : Int32)) <<< ((12 : Int32) &&& 31)) ||| ((y1 &&& (63 : Int32)) <<< ((6 : Int32) &&& 31))) ||| (y2 &&& (63 : Int32))))])) tgt
                refine XS.icmpYes X9.here hx rfl (pc0 := 168) (pc' := 173) rfl (hb hby d2_168) rfl (flt hc168).2.1 (by decide) (by decide) ?_
                show Steps p.tables e below (T9.setTop (mkF m 173 #[.val (.int xl), .val (.int y1), .val (.int y2), .val (.int y3), .val (.int xn), .val (.int (3 : Int32)), .val (.int ((((xl &&& (15 : Int32)) <<< ((12 : Int32) &&& 31)) ||| ((y1 &&& (63 : Int32)) <<< ((6 : Int32) &&& 31))) ||| (y2 &&& (63 : Int32))))] [])) tgt
                refine XS.iload X9.here hx rfl (hb hby d2_173) rfl ?_
                show Steps p.tables e below (T9.setTop (mkF m 175 #[.val (.int xl), .val (.int y1), .val (.int y2), .val (.int y3), .val (.int xn), .val (.int (3 : Int32)), .val (.int ((((xl &&& (15 : Int32)) <<< ((12 : Int32) &&& 31)) ||| ((y1 &&& (63 : Int32)) <<< ((6 : Int32) &&& 31))) ||| (y2 &&& (63 : Int32))))] [(.int ((((xl &&& (15 : Int32)) <<< ((12 : Int32) &&& 31)) ||| ((y1 &&& (63 : Int32)) <<< ((6 : Int32) &&& 31))) ||| (y2 &&& (63 : Int32))))])) tgt
                refine X9.ldcInt hx hown (mvT hZ (hw _ (List.mem_of_getElem? (i := 13) rfl))) (g := (mkF m 175 #[.val (.int xl), .val (.int y1), .val (.int y2), .val (.int y3), .val (.int xn), .val (.int (3 : Int32)), .val (.int ((((xl &&& (15 : Int32)) <<< ((12 : Int32) &&& 31)) ||| ((y1 &&& (63 : Int32)) <<< ((6 : Int32) &&& 31))) ||| (y2 &&& (63 : Int32))))] [(.int ((((xl &&& (15 : Int32)) <<< ((12 : Int32) &&& 31)) ||| ((y1 &&& (63 : Int32)) <<< ((6 : Int32) &&& 31))) ||| (y2 &&& (63 : Int32))))])) rfl (hb hby d2_175) _ ?_
                exact k
              by_cases hc177 : ((((xl &&& (15 : Int32)) <<< ((12 : Int32) &&& 31)) ||| ((y1 &&& (63 : Int32)) <<< ((6 : Int32) &&& 31))) ||| (y2 &&& (63 : Int32))) < (55296 : Int32)
              · skip
                refine own_st (V := T9.setTop (mkF m 190 #[.val (.int xl), .val (.int y1), .val (.int y2), .val (.int y3), .val (.int xn), .val (.int (3 : Int32)), .val (.int ((((xl &&& (15 : Int32)) <<< ((12 : Int32) &&& 31)) ||| ((y1 &&& (63 : Int32)) <<< ((6 : Int32) &&& 31))) ||| (y2 &&& (63 : Int32))))] [(.int (3 : Int32))])) (fun tgt k => ?_) ?_
                · show Steps p.tables e below (T9.setTop (mkF m 177 #[.val (.int xl), .val (.int y1), .val (.int y2), .val (.int y3), .val (.int xn), .val (.int (3 : Int32)), .val (.int ((((xl &&& (15 : Int32)) <<< ((12 : Int32) &&& 31)) ||| ((y1 &&& (63 : Int32)) <<< ((6 : Int32) &&& 31))) ||| (y2 &&& (63 : Int32))))] [(.int (55296 : Int32)), (.int ((((xl &&& (15 : Int32)) <<< ((12 : Int32) &&& 31)) ||| ((y1 &&& (63 : Int32)) <<< ((6 : Int32) &&& 31))) ||| (y2 &&& (63 : Int32))))])) tgt
                  refine XS.icmpYes X9.here hx rfl (pc0 := 177) (pc' := 189) rfl (hb hby d2_177) rfl (tlt hc177).1 (by decide) (by decide) ?_
                  show Steps p.tables e below (T9.setTop (mkF m 189 #[.val (.int xl), .val (.int y1), .val (.int y2), .val (.int y3), .val (.int xn), .val (.int (3 : Int32)), .val (.int ((((xl &&& (15 : Int32)) <<< ((12 : Int32) &&& 31)) ||| ((y1 &&& (63 : Int32)) <<< ((6 : Int32) &&& 31))) ||| (y2 &&& (63 : Int32))))] [])) tgt
                  refine XS.iconst X9.here hx rfl (hb hby d2_189) ?_
                  exact k
                refine own_retI X9 hx hlk Bd.returns (hb hby d2_190) ?_ (by decide) (by decide)
                show Q2 Z xl y1 y2 y3 xn h0 n0 (some (.int (3 : Int32))) T9.heap _
                rw [K9]
                refine ⟨?_, N9, rfl⟩
                exact congrArg (fun q => some (Value.int q)) (by unfold own_ex; rw [if_neg hc8, if_pos hc25, if_neg hc57, if_neg hc66, if_neg hc81, if_neg hc168, if_pos hc177])
              · skip
                refine own_st (V := T9.setTop (mkF m 184 #[.val (.int xl), .val (.int y1), .val (.int y2), .val (.int y3), .val (.int xn), .val (.int (3 : Int32)), .val (.int ((((xl &&& (15 : Int32)) <<< ((12 : Int32) &&& 31)) ||| ((y1 &&& (63 : Int32)) <<< ((6 : Int32) &&& 31))) ||| (y2 &&& (63 : Int32))))] [(.int (57343 : Int32)), (.int ((((xl &&& (15 : Int32)) <<< ((12 : Int32) &&& 31)) ||| ((y1 &&& (63 : Int32)) <<< ((6 : Int32) &&& 31))) ||| (y2 &&& (63 : Int32))))])) (fun tgt k => ?_) ?_
                · show Steps p.tables e below (T9.setTop (mkF m 177 #[.val (.int xl), .val (.int y1), .val (.int y2), .val (.int y3), .val (.int xn), .val (.int (3 : Int32)), .val (.int ((((xl &&& (15 : Int32)) <<< ((12 : Int32) &&& 31)) ||| ((y1 &&& (63 : Int32)) <<< ((6 : Int32) &&& 31))) ||| (y2 &&& (63 : Int32))))] [(.int (55296 : Int32)), (.int ((((xl &&& (15 : Int32)) <<< ((12 : Int32) &&& 31)) ||| ((y1 &&& (63 : Int32)) <<< ((6 : Int32) &&& 31))) ||| (y2 &&& (63 : Int32))))])) tgt
                  refine XS.icmpNo X9.here hx rfl (hb hby d2_177) rfl (flt hc177).1 ?_
                  show Steps p.tables e below (T9.setTop (mkF m 180 #[.val (.int xl), .val (.int y1), .val (.int y2), .val (.int y3), .val (.int xn), .val (.int (3 : Int32)), .val (.int ((((xl &&& (15 : Int32)) <<< ((12 : Int32) &&& 31)) ||| ((y1 &&& (63 : Int32)) <<< ((6 : Int32) &&& 31))) ||| (y2 &&& (63 : Int32))))] [])) tgt
                  refine XS.iload X9.here hx rfl (hb hby d2_180) rfl ?_
                  show Steps p.tables e below (T9.setTop (mkF m 182 #[.val (.int xl), .val (.int y1), .val (.int y2), .val (.int y3), .val (.int xn), .val (.int (3 : Int32)), .val (.int ((((xl &&& (15 : Int32)) <<< ((12 : Int32) &&& 31)) ||| ((y1 &&& (63 : Int32)) <<< ((6 : Int32) &&& 31))) ||| (y2 &&& (63 : Int32))))] [(.int ((((xl &&& (15 : Int32)) <<< ((12 : Int32) &&& 31)) ||| ((y1 &&& (63 : Int32)) <<< ((6 : Int32) &&& 31))) ||| (y2 &&& (63 : Int32))))])) tgt
                  refine X9.ldcInt hx hown (mvT hZ (hw _ (List.mem_of_getElem? (i := 14) rfl))) (g := (mkF m 182 #[.val (.int xl), .val (.int y1), .val (.int y2), .val (.int y3), .val (.int xn), .val (.int (3 : Int32)), .val (.int ((((xl &&& (15 : Int32)) <<< ((12 : Int32) &&& 31)) ||| ((y1 &&& (63 : Int32)) <<< ((6 : Int32) &&& 31))) ||| (y2 &&& (63 : Int32))))] [(.int ((((xl &&& (15 : Int32)) <<< ((12 : Int32) &&& 31)) ||| ((y1 &&& (63 : Int32)) <<< ((6 : Int32) &&& 31))) ||| (y2 &&& (63 : Int32))))])) rfl (hb hby d2_182) _ ?_
                  exact k
                by_cases hc184 : (57343 : Int32) < ((((xl &&& (15 : Int32)) <<< ((12 : Int32) &&& 31)) ||| ((y1 &&& (63 : Int32)) <<< ((6 : Int32) &&& 31))) ||| (y2 &&& (63 : Int32)))
                · skip
                  refine own_st (V := T9.setTop (mkF m 190 #[.val (.int xl), .val (.int y1), .val (.int y2), .val (.int y3), .val (.int xn), .val (.int (3 : Int32)), .val (.int ((((xl &&& (15 : Int32)) <<< ((12 : Int32) &&& 31)) ||| ((y1 &&& (63 : Int32)) <<< ((6 : Int32) &&& 31))) ||| (y2 &&& (63 : Int32))))] [(.int (3 : Int32))])) (fun tgt k => ?_) ?_
                  · show Steps p.tables e below (T9.setTop (mkF m 184 #[.val (.int xl), .val (.int y1), .val (.int y2), .val (.int y3), .val (.int xn), .val (.int (3 : Int32)), .val (.int ((((xl &&& (15 : Int32)) <<< ((12 : Int32) &&& 31)) ||| ((y1 &&& (63 : Int32)) <<< ((6 : Int32) &&& 31))) ||| (y2 &&& (63 : Int32))))] [(.int (57343 : Int32)), (.int ((((xl &&& (15 : Int32)) <<< ((12 : Int32) &&& 31)) ||| ((y1 &&& (63 : Int32)) <<< ((6 : Int32) &&& 31))) ||| (y2 &&& (63 : Int32))))])) tgt
                    refine XS.icmpYes X9.here hx rfl (pc0 := 184) (pc' := 189) rfl (hb hby d2_184) rfl (tlt hc184).2.2.1 (by decide) (by decide) ?_
                    show Steps p.tables e below (T9.setTop (mkF m 189 #[.val (.int xl), .val (.int y1), .val (.int y2), .val (.int y3), .val (.int xn), .val (.int (3 : Int32)), .val (.int ((((xl &&& (15 : Int32)) <<< ((12 : Int32) &&& 31)) ||| ((y1 &&& (63 : Int32)) <<< ((6 : Int32) &&& 31))) ||| (y2 &&& (63 : Int32))))] [])) tgt
                    refine XS.iconst X9.here hx rfl (hb hby d2_189) ?_
                    exact k
                  refine own_retI X9 hx hlk Bd.returns (hb hby d2_190) ?_ (by decide) (by decide)
                  show Q2 Z xl y1 y2 y3 xn h0 n0 (some (.int (3 : Int32))) T9.heap _
                  rw [K9]
                  refine ⟨?_, N9, rfl⟩
                  exact congrArg (fun q => some (Value.int q)) (by unfold own_ex; rw [if_neg hc8, if_pos hc25, if_neg hc57, if_neg hc66, if_neg hc81, if_neg hc168, if_neg hc177, if_pos hc184])
                · skip
                  refine own_st (V := T9.setTop (mkF m 188 #[.val (.int xl), .val (.int y1), .val (.int y2), .val (.int y3), .val (.int xn), .val (.int (3 : Int32)), .val (.int ((((xl &&& (15 : Int32)) <<< ((12 : Int32) &&& 31)) ||| ((y1 &&& (63 : Int32)) <<< ((6 : Int32) &&& 31))) ||| (y2 &&& (63 : Int32))))] [(.int (0 : Int32))])) (fun tgt k => ?_) ?_
                  · show Steps p.tables e below (T9.setTop (mkF m 184 #[.val (.int xl), .val (.int y1), .val (.int y2), .val (.int y3), .val (.int xn), .val (.int (3 : Int32)), .val (.int ((((xl &&& (15 : Int32)) <<< ((12 : Int32) &&& 31)) ||| ((y1 &&& (63 : Int32)) <<< ((6 : Int32) &&& 31))) ||| (y2 &&& (63 : Int32))))] [(.int (57343 : Int32)), (.int ((((xl &&& (15 : Int32)) <<< ((12 : Int32) &&& 31)) ||| ((y1 &&& (63 : Int32)) <<< ((6 : Int32) &&& 31))) ||| (y2 &&& (63 : Int32))))])) tgt
                    refine XS.icmpNo X9.here hx rfl (hb hby d2_184) rfl (flt hc184).2.2.1 ?_
                    show Steps p.tables e below (T9.setTop (mkF m 187 #[.val (.int xl), .val (.int y1), .val (.int y2), .val (.int y3), .val (.int xn), .val (.int (3 : Int32)), .val (.int ((((xl &&& (15 : Int32)) <<< ((12 : Int32) &&& 31)) ||| ((y1 &&& (63 : Int32)) <<< ((6 : Int32) &&& 31))) ||| (y2 &&& (63 : Int32))))] [])) tgt
                    refine XS.iconst X9.here hx rfl (hb hby d2_187) ?_
                    exact k
                  refine own_retI X9 hx hlk Bd.returns (hb hby d2_188) ?_ (by decide) (by decide)
                  show Q2 Z xl y1 y2 y3 xn h0 n0 (some (.int (0 : Int32))) T9.heap _
                  rw [K9]
                  refine ⟨?_, N9, rfl⟩
                  exact congrArg (fun q => some (Value.int q)) (by unfold own_ex; rw [if_neg hc8, if_pos hc25, if_neg hc57, if_neg hc66, if_neg hc81, if_neg hc168, if_neg hc177, if_neg hc184])
    · skip
      refine own_st (V := s₁.setTop (mkF m 42 #[.val (.int xl), .val (.int y1), .val (.int y2), .val (.int y3), .val (.int xn), .unset, .unset] [(.int (240 : Int32)), (.int (xl &&& (248 : Int32)))])) (fun tgt k => ?_) ?_
      · show Steps p.tables e below (s₁.setTop (mkF m 25 #[.val (.int xl), .val (.int y1), .val (.int y2), .val (.int y3), .val (.int xn), .unset, .unset] [(.int (224 : Int32)), (.int (xl &&& (240 : Int32)))])) tgt
        refine XS.icmpYes X0.here hx rfl (pc0 := 25) (pc' := 34) rfl (hb hby d2_25) rfl (feq hc25).2 (by decide) (by decide) ?_
        show Steps p.tables e below (s₁.setTop (mkF m 34 #[.val (.int xl), .val (.int y1), .val (.int y2), .val (.int y3), .val (.int xn), .unset, .unset] [])) tgt
        refine XS.iloadN X0.here hx rfl (hb hby d2_34) rfl ?_
        show Steps p.tables e below (s₁.setTop (mkF m 35 #[.val (.int xl), .val (.int y1), .val (.int y2), .val (.int y3), .val (.int xn), .unset, .unset] [(.int xl)])) tgt
        refine XS.sipush X0.here hx rfl (hb hby d2_35) ?_
        show Steps p.tables e below (s₁.setTop (mkF m 38 #[.val (.int xl), .val (.int y1), .val (.int y2), .val (.int y3), .val (.int xn), .unset, .unset] [(.int (248 : Int32)), (.int xl)])) tgt
        refine XS.iand X0.here hx rfl (hb hby d2_38) rfl ?_
        show Steps p.tables e below (s₁.setTop (mkF m 39 #[.val (.int xl), .val (.int y1), .val (.int y2), .val (.int y3), .val (.int xn), .unset, .unset] [(.int (xl &&& (248 : Int32)))])) tgt
        refine XS.sipush X0.here hx rfl (hb hby d2_39) ?_
        exact k
      by_cases hc42 : (xl &&& (248 : Int32)) = (240 : Int32)
      · skip
        refine own_st (V := s₁.setTop (mkF m 57 #[.val (.int xl), .val (.int y1), .val (.int y2), .val (.int y3), .val (.int xn), .val (.int (4 : Int32)), .unset] [(.int xn), (.int (4 : Int32))])) (fun tgt k => ?_) ?_
        · show Steps p.tables e below (s₁.setTop (mkF m 42 #[.val (.int xl), .val (.int y1), .val (.int y2), .val (.int y3), .val (.int xn), .unset, .unset] [(.int (240 : Int32)), (.int (xl &&& (248 : Int32)))])) tgt
          refine XS.icmpNo X0.here hx rfl (hb hby d2_42) rfl (teq hc42).2 ?_
          show Steps p.tables e below (s₁.setTop (mkF m 45 #[.val (.int xl), .val (.int y1), .val (.int y2), .val (.int y3), .val (.int xn), .unset, .unset] [])) tgt
          refine XS.iconst X0.here hx rfl (hb hby d2_45) ?_
          show Steps p.tables e below (s₁.setTop (mkF m 46 #[.val (.int xl), .val (.int y1), .val (.int y2), .val (.int y3), .val (.int xn), .unset, .unset] [(.int (4 : Int32))])) tgt
          refine XS.istore X0.here hx rfl (hb hby d2_46) rfl (l' := #[.val (.int xl), .val (.int y1), .val (.int y2), .val (.int y3), .val (.int xn), .val (.int (4 : Int32)), .unset]) rfl ?_
          show Steps p.tables e below (s₁.setTop (mkF m 48 #[.val (.int xl), .val (.int y1), .val (.int y2), .val (.int y3), .val (.int xn), .val (.int (4 : Int32)), .unset] [])) tgt
          refine XS.goto X0.here hx rfl (pc0 := 48) (pc' := 53) rfl (hb hby d2_48) (by decide) (by decide) ?_
          show Steps p.tables e below (s₁.setTop (mkF m 53 #[.val (.int xl), .val (.int y1), .val (.int y2), .val (.int y3), .val (.int xn), .val (.int (4 : Int32)), .unset] [])) tgt
          refine XS.iload X0.here hx rfl (hb hby d2_53) rfl ?_
          show Steps p.tables e below (s₁.setTop (mkF m 55 #[.val (.int xl), .val (.int y1), .val (.int y2), .val (.int y3), .val (.int xn), .val (.int (4 : Int32)), .unset] [(.int (4 : Int32))])) tgt
          refine XS.iload X0.here hx rfl (hb hby d2_55) rfl ?_
          exact k
        by_cases hc57 : xn < (4 : Int32)
        · skip
          refine own_st (V := s₁.setTop (mkF m 61 #[.val (.int xl), .val (.int y1), .val (.int y2), .val (.int y3), .val (.int xn), .val (.int (4 : Int32)), .unset] [(.int (0 : Int32))])) (fun tgt k => ?_) ?_
          · show Steps p.tables e below (s₁.setTop (mkF m 57 #[.val (.int xl), .val (.int y1), .val (.int y2), .val (.int y3), .val (.int xn), .val (.int (4 : Int32)), .unset] [(.int xn), (.int (4 : Int32))])) tgt
            refine XS.icmpNo X0.here hx rfl (hb hby d2_57) rfl (tlt hc57).2.2.2 ?_
            show Steps p.tables e below (s₁.setTop (mkF m 60 #[.val (.int xl), .val (.int y1), .val (.int y2), .val (.int y3), .val (.int xn), .val (.int (4 : Int32)), .unset] [])) tgt
            refine XS.iconst X0.here hx rfl (hb hby d2_60) ?_
            exact k
          refine own_retI X0 hx hlk Bd.returns (hb hby d2_61) ?_ (by decide) (by decide)
          show Q2 Z xl y1 y2 y3 xn h0 n0 (some (.int (0 : Int32))) s₁.heap _
          rw [e0]
          refine ⟨?_, N0, rfl⟩
          exact congrArg (fun q => some (Value.int q)) (by unfold own_ex; rw [if_neg hc8, if_neg hc25, if_pos hc42, if_pos hc57])
        · skip
          refine own_st (V := s₁.setTop (mkF m 63 #[.val (.int xl), .val (.int y1), .val (.int y2), .val (.int y3), .val (.int xn), .val (.int (4 : Int32)), .unset] [(.int y1)])) (fun tgt k => ?_) ?_
          · show Steps p.tables e below (s₁.setTop (mkF m 57 #[.val (.int xl), .val (.int y1), .val (.int y2), .val (.int y3), .val (.int xn), .val (.int (4 : Int32)), .unset] [(.int xn), (.int (4 : Int32))])) tgt
            refine XS.icmpYes X0.here hx rfl (pc0 := 57) (pc' := 62) rfl (hb hby d2_57) rfl (flt hc57).2.2.2 (by decide) (by decide) ?_
            show Steps p.tables e below (s₁.setTop (mkF m 62 #[.val (.int xl), .val (.int y1), .val (.int y2), .val (.int y3), .val (.int xn), .val (.int (4 : Int32)), .unset] [])) tgt
            refine XS.iloadN X0.here hx rfl (hb hby d2_62) rfl ?_
            exact k
          obtain ⟨_, _, ⟨T16, L16, k16, n16⟩, -, X16, ⟨Lc16, hQ16, l16, y16, z16⟩, st16⟩ := Jvm.LawKit.callS X0 hx (y := (⟨"com/example/headwater/headwater/connectors/format/JsonRecordUtf8LengthPinLaw", "cont", "(I)Z"⟩ : MethodName)) hown (mvT hZ (hw _ (List.mem_of_getElem? (i := 10) rfl))) (mvT hZ (hw _ (List.mem_of_getElem? (i := 11) rfl))) (mvT hZ (hw _ (List.mem_of_getElem? (i := 8) rfl))) (mvT hZ (hw _ (List.mem_of_getElem? (i := 12) rfl))) (by decide) (backOf (W := 0) (rm3 l Z a0 hw [] y1 h0 n0 Z0 ) hZ (hw _ (List.mem_of_getElem? (i := 12) rfl)) (hw _ (List.mem_of_getElem? (i := 8) rfl)) (by decide) (by decide)) (g := (mkF m 63 #[.val (.int xl), .val (.int y1), .val (.int y2), .val (.int y3), .val (.int xn), .val (.int (4 : Int32)), .unset] [(.int y1)])) rfl (by rw [hml]; rfl) (argsL := [(.int y1)]) (rest := []) (lenOf pd_2_0 rfl) rfl (by show 2 * 0 + _ ≤ _; exact Nat.le_of_eq rfl) (hb hby d2_63) (fun _ _ => ⟨rfl, e0, (by decide : 0 + 0 ≤ _), (by decide : 0 + 0 ≤ _)⟩)
          dsimp only [Pt.U, Pt.locs, Pt.cells, Pt.slots] at X16 l16 y16 z16 st16 hQ16
          subst l16 y16 z16
          obtain ⟨rfl, N16q, K16⟩ := hQ16
          have N16 := Fr.app N0 N16q
          refine own_st st16 ?_
          show own_Go p e below _ (T16.setTop (mkF m 66 #[.val (.int xl), .val (.int y1), .val (.int y2), .val (.int y3), .val (.int xn), .val (.int (4 : Int32)), .unset] [(.int (own_ct y1))]))
          by_cases hc66 : (own_ct y1) = (0 : Int32)
          · skip
            refine own_st (V := T16.setTop (mkF m 70 #[.val (.int xl), .val (.int y1), .val (.int y2), .val (.int y3), .val (.int xn), .val (.int (4 : Int32)), .unset] [(.int (0 : Int32))])) (fun tgt k => ?_) ?_
            · show Steps p.tables e below (T16.setTop (mkF m 66 #[.val (.int xl), .val (.int y1), .val (.int y2), .val (.int y3), .val (.int xn), .val (.int (4 : Int32)), .unset] [(.int (own_ct y1))])) tgt
              refine XS.ifNo X16.here hx rfl (hb hby d2_66) rfl ((if0 _ _).trans (teq hc66).2) ?_
              show Steps p.tables e below (T16.setTop (mkF m 69 #[.val (.int xl), .val (.int y1), .val (.int y2), .val (.int y3), .val (.int xn), .val (.int (4 : Int32)), .unset] [])) tgt
              refine XS.iconst X16.here hx rfl (hb hby d2_69) ?_
              exact k
            refine own_retI X16 hx hlk Bd.returns (hb hby d2_70) ?_ (by decide) (by decide)
            show Q2 Z xl y1 y2 y3 xn h0 n0 (some (.int (0 : Int32))) T16.heap _
            rw [K16]
            refine ⟨?_, N16, rfl⟩
            exact congrArg (fun q => some (Value.int q)) (by unfold own_ex; rw [if_neg hc8, if_neg hc25, if_pos hc42, if_neg hc57, if_pos hc66])
          · skip
            refine own_st (V := T16.setTop (mkF m 78 #[.val (.int xl), .val (.int y1), .val (.int y2), .val (.int y3), .val (.int xn), .val (.int (4 : Int32)), .unset] [(.int y2)])) (fun tgt k => ?_) ?_
            · show Steps p.tables e below (T16.setTop (mkF m 66 #[.val (.int xl), .val (.int y1), .val (.int y2), .val (.int y3), .val (.int xn), .val (.int (4 : Int32)), .unset] [(.int (own_ct y1))])) tgt
              refine XS.ifYes X16.here hx rfl (pc0 := 66) (pc' := 71) rfl (hb hby d2_66) rfl ((if0 _ _).trans (feq hc66).2) (by decide) (by decide) ?_
              show Steps p.tables e below (T16.setTop (mkF m 71 #[.val (.int xl), .val (.int y1), .val (.int y2), .val (.int y3), .val (.int xn), .val (.int (4 : Int32)), .unset] [])) tgt
              refine XS.iload X16.here hx rfl (hb hby d2_71) rfl ?_
              show Steps p.tables e below (T16.setTop (mkF m 73 #[.val (.int xl), .val (.int y1), .val (.int y2), .val (.int y3), .val (.int xn), .val (.int (4 : Int32)), .unset] [(.int (4 : Int32))])) tgt
              refine XS.iconst X16.here hx rfl (hb hby d2_73) ?_
              show Steps p.tables e below (T16.setTop (mkF m 74 #[.val (.int xl), .val (.int y1), .val (.int y2), .val (.int y3), .val (.int xn), .val (.int (4 : Int32)), .unset] [(.int (3 : Int32)), (.int (4 : Int32))])) tgt
              refine XS.icmpNo X16.here hx rfl (hb hby d2_74) rfl (flt (by decide : ¬ ((4 : Int32) < (3 : Int32)))).1 ?_
              show Steps p.tables e below (T16.setTop (mkF m 77 #[.val (.int xl), .val (.int y1), .val (.int y2), .val (.int y3), .val (.int xn), .val (.int (4 : Int32)), .unset] [])) tgt
              refine XS.iloadN X16.here hx rfl (hb hby d2_77) rfl ?_
              exact k
            obtain ⟨_, _, ⟨T18, L18, k18, n18⟩, -, X18, ⟨Lc18, hQ18, l18, y18, z18⟩, st18⟩ := Jvm.LawKit.callS X16 hx (y := (⟨"com/example/headwater/headwater/connectors/format/JsonRecordUtf8LengthPinLaw", "cont", "(I)Z"⟩ : MethodName)) hown (mvT hZ (hw _ (List.mem_of_getElem? (i := 10) rfl))) (mvT hZ (hw _ (List.mem_of_getElem? (i := 11) rfl))) (mvT hZ (hw _ (List.mem_of_getElem? (i := 8) rfl))) (mvT hZ (hw _ (List.mem_of_getElem? (i := 12) rfl))) (by decide) (backOf (W := 0) (rm3 l Z a0 hw [] y2 h0 n0 Z0 ) hZ (hw _ (List.mem_of_getElem? (i := 12) rfl)) (hw _ (List.mem_of_getElem? (i := 8) rfl)) (by decide) (by decide)) (g := (mkF m 78 #[.val (.int xl), .val (.int y1), .val (.int y2), .val (.int y3), .val (.int xn), .val (.int (4 : Int32)), .unset] [(.int y2)])) rfl (by rw [hml]; rfl) (argsL := [(.int y2)]) (rest := []) (lenOf pd_2_0 rfl) rfl (by show 2 * 0 + _ ≤ _; exact Nat.le_of_eq rfl) (hb hby d2_78) (fun _ _ => ⟨rfl, K16, (by decide : 0 + 0 ≤ _), (by decide : 0 + 0 ≤ _)⟩)
            dsimp only [Pt.U, Pt.locs, Pt.cells, Pt.slots] at X18 l18 y18 z18 st18 hQ18
            subst l18 y18 z18
            obtain ⟨rfl, N18q, K18⟩ := hQ18
            have N18 := Fr.app N16 N18q
            refine own_st st18 ?_
            show own_Go p e below _ (T18.setTop (mkF m 81 #[.val (.int xl), .val (.int y1), .val (.int y2), .val (.int y3), .val (.int xn), .val (.int (4 : Int32)), .unset] [(.int (own_ct y2))]))
            by_cases hc81 : (own_ct y2) = (0 : Int32)
            · skip
              refine own_st (V := T18.setTop (mkF m 85 #[.val (.int xl), .val (.int y1), .val (.int y2), .val (.int y3), .val (.int xn), .val (.int (4 : Int32)), .unset] [(.int (0 : Int32))])) (fun tgt k => ?_) ?_
              · show Steps p.tables e below (T18.setTop (mkF m 81 #[.val (.int xl), .val (.int y1), .val (.int y2), .val (.int y3), .val (.int xn), .val (.int (4 : Int32)), .unset] [(.int (own_ct y2))])) tgt
                refine XS.ifNo X18.here hx rfl (hb hby d2_81) rfl ((if0 _ _).trans (teq hc81).2) ?_
                show Steps p.tables e below (T18.setTop (mkF m 84 #[.val (.int xl), .val (.int y1), .val (.int y2), .val (.int y3), .val (.int xn), .val (.int (4 : Int32)), .unset] [])) tgt
                refine XS.iconst X18.here hx rfl (hb hby d2_84) ?_
                exact k
              refine own_retI X18 hx hlk Bd.returns (hb hby d2_85) ?_ (by decide) (by decide)
              show Q2 Z xl y1 y2 y3 xn h0 n0 (some (.int (0 : Int32))) T18.heap _
              rw [K18]
              refine ⟨?_, N18, rfl⟩
              exact congrArg (fun q => some (Value.int q)) (by unfold own_ex; rw [if_neg hc8, if_neg hc25, if_pos hc42, if_neg hc57, if_neg hc66, if_pos hc81])
            · skip
              refine own_st (V := T18.setTop (mkF m 93 #[.val (.int xl), .val (.int y1), .val (.int y2), .val (.int y3), .val (.int xn), .val (.int (4 : Int32)), .unset] [(.int y3)])) (fun tgt k => ?_) ?_
              · show Steps p.tables e below (T18.setTop (mkF m 81 #[.val (.int xl), .val (.int y1), .val (.int y2), .val (.int y3), .val (.int xn), .val (.int (4 : Int32)), .unset] [(.int (own_ct y2))])) tgt
                refine XS.ifYes X18.here hx rfl (pc0 := 81) (pc' := 86) rfl (hb hby d2_81) rfl ((if0 _ _).trans (feq hc81).2) (by decide) (by decide) ?_
                show Steps p.tables e below (T18.setTop (mkF m 86 #[.val (.int xl), .val (.int y1), .val (.int y2), .val (.int y3), .val (.int xn), .val (.int (4 : Int32)), .unset] [])) tgt
                refine XS.iload X18.here hx rfl (hb hby d2_86) rfl ?_
                show Steps p.tables e below (T18.setTop (mkF m 88 #[.val (.int xl), .val (.int y1), .val (.int y2), .val (.int y3), .val (.int xn), .val (.int (4 : Int32)), .unset] [(.int (4 : Int32))])) tgt
                refine XS.iconst X18.here hx rfl (hb hby d2_88) ?_
                show Steps p.tables e below (T18.setTop (mkF m 89 #[.val (.int xl), .val (.int y1), .val (.int y2), .val (.int y3), .val (.int xn), .val (.int (4 : Int32)), .unset] [(.int (4 : Int32)), (.int (4 : Int32))])) tgt
                refine XS.icmpNo X18.here hx rfl (hb hby d2_89) rfl (teq (by decide : (4 : Int32) = (4 : Int32))).2 ?_
                show Steps p.tables e below (T18.setTop (mkF m 92 #[.val (.int xl), .val (.int y1), .val (.int y2), .val (.int y3), .val (.int xn), .val (.int (4 : Int32)), .unset] [])) tgt
                refine XS.iloadN X18.here hx rfl (hb hby d2_92) rfl ?_
                exact k
              obtain ⟨_, _, ⟨T20, L20, k20, n20⟩, -, X20, ⟨Lc20, hQ20, l20, y20, z20⟩, st20⟩ := Jvm.LawKit.callS X18 hx (y := (⟨"com/example/headwater/headwater/connectors/format/JsonRecordUtf8LengthPinLaw", "cont", "(I)Z"⟩ : MethodName)) hown (mvT hZ (hw _ (List.mem_of_getElem? (i := 10) rfl))) (mvT hZ (hw _ (List.mem_of_getElem? (i := 11) rfl))) (mvT hZ (hw _ (List.mem_of_getElem? (i := 8) rfl))) (mvT hZ (hw _ (List.mem_of_getElem? (i := 12) rfl))) (by decide) (backOf (W := 0) (rm3 l Z a0 hw [] y3 h0 n0 Z0 ) hZ (hw _ (List.mem_of_getElem? (i := 12) rfl)) (hw _ (List.mem_of_getElem? (i := 8) rfl)) (by decide) (by decide)) (g := (mkF m 93 #[.val (.int xl), .val (.int y1), .val (.int y2), .val (.int y3), .val (.int xn), .val (.int (4 : Int32)), .unset] [(.int y3)])) rfl (by rw [hml]; rfl) (argsL := [(.int y3)]) (rest := []) (lenOf pd_2_0 rfl) rfl (by show 2 * 0 + _ ≤ _; exact Nat.le_of_eq rfl) (hb hby d2_93) (fun _ _ => ⟨rfl, K18, (by decide : 0 + 0 ≤ _), (by decide : 0 + 0 ≤ _)⟩)
              dsimp only [Pt.U, Pt.locs, Pt.cells, Pt.slots] at X20 l20 y20 z20 st20 hQ20
              subst l20 y20 z20
              obtain ⟨rfl, N20q, K20⟩ := hQ20
              have N20 := Fr.app N18 N20q
              refine own_st st20 ?_
              show own_Go p e below _ (T20.setTop (mkF m 96 #[.val (.int xl), .val (.int y1), .val (.int y2), .val (.int y3), .val (.int xn), .val (.int (4 : Int32)), .unset] [(.int (own_ct y3))]))
              by_cases hc96 : (own_ct y3) = (0 : Int32)
              · skip
                refine own_st (V := T20.setTop (mkF m 100 #[.val (.int xl), .val (.int y1), .val (.int y2), .val (.int y3), .val (.int xn), .val (.int (4 : Int32)), .unset] [(.int (0 : Int32))])) (fun tgt k => ?_) ?_
                · show Steps p.tables e below (T20.setTop (mkF m 96 #[.val (.int xl), .val (.int y1), .val (.int y2), .val (.int y3), .val (.int xn), .val (.int (4 : Int32)), .unset] [(.int (own_ct y3))])) tgt
                  refine XS.ifNo X20.here hx rfl (hb hby d2_96) rfl ((if0 _ _).trans (teq hc96).2) ?_
                  show Steps p.tables e below (T20.setTop (mkF m 99 #[.val (.int xl), .val (.int y1), .val (.int y2), .val (.int y3), .val (.int xn), .val (.int (4 : Int32)), .unset] [])) tgt
                  refine XS.iconst X20.here hx rfl (hb hby d2_99) ?_
                  exact k
                refine own_retI X20 hx hlk Bd.returns (hb hby d2_100) ?_ (by decide) (by decide)
                show Q2 Z xl y1 y2 y3 xn h0 n0 (some (.int (0 : Int32))) T20.heap _
                rw [K20]
                refine ⟨?_, N20, rfl⟩
                exact congrArg (fun q => some (Value.int q)) (by unfold own_ex; rw [if_neg hc8, if_neg hc25, if_pos hc42, if_neg hc57, if_neg hc66, if_neg hc81, if_pos hc96])
              · skip
                refine own_st (V := T20.setTop (mkF m 225 #[.val (.int xl), .val (.int y1), .val (.int y2), .val (.int y3), .val (.int xn), .val (.int (4 : Int32)), .val (.int (((((xl &&& (7 : Int32)) <<< ((18 : Int32) &&& 31)) ||| ((y1 &&& (63 : Int32)) <<< ((12 : Int32) &&& 31))) ||| ((y2 &&& (63 : Int32)) <<< ((6 : Int32) &&& 31))) ||| (y3 &&& (63 : Int32))))] [(.int (65536 : Int32)), (.int (((((xl &&& (7 : Int32)) <<< ((18 : Int32) &&& 31)) ||| ((y1 &&& (63 : Int32)) <<< ((12 : Int32) &&& 31))) ||| ((y2 &&& (63 : Int32)) <<< ((6 : Int32) &&& 31))) ||| (y3 &&& (63 : Int32))))])) (fun tgt k => ?_) ?_
                · show Steps p.tables e below (T20.setTop (mkF m 96 #[.val (.int xl), .val (.int y1), .val (.int y2), .val (.int y3), .val (.int xn), .val (.int (4 : Int32)), .unset] [(.int (own_ct y3))])) tgt
                  refine XS.ifYes X20.here hx rfl (pc0 := 96) (pc' := 101) rfl (hb hby d2_96) rfl ((if0 _ _).trans (feq hc96).2) (by decide) (by decide) ?_
                  show Steps p.tables e below (T20.setTop (mkF m 101 #[.val (.int xl), .val (.int y1), .val (.int y2), .val (.int y3), .val (.int xn), .val (.int (4 : Int32)), .unset] [])) tgt
                  refine XS.iload X20.here hx rfl (hb hby d2_101) rfl ?_
                  show Steps p.tables e below (T20.setTop (mkF m 103 #[.val (.int xl), .val (.int y1), .val (.int y2), .val (.int y3), .val (.int xn), .val (.int (4 : Int32)), .unset] [(.int (4 : Int32))])) tgt
                  refine XS.iconst X20.here hx rfl (hb hby d2_103) ?_
                  show Steps p.tables e below (T20.setTop (mkF m 104 #[.val (.int xl), .val (.int y1), .val (.int y2), .val (.int y3), .val (.int xn), .val (.int (4 : Int32)), .unset] [(.int (2 : Int32)), (.int (4 : Int32))])) tgt
                  refine XS.icmpYes X20.here hx rfl (pc0 := 104) (pc' := 135) rfl (hb hby d2_104) rfl (feq (by decide : ¬ ((4 : Int32) = (2 : Int32)))).2 (by decide) (by decide) ?_
                  show Steps p.tables e below (T20.setTop (mkF m 135 #[.val (.int xl), .val (.int y1), .val (.int y2), .val (.int y3), .val (.int xn), .val (.int (4 : Int32)), .unset] [])) tgt
                  refine XS.iload X20.here hx rfl (hb hby d2_135) rfl ?_
                  show Steps p.tables e below (T20.setTop (mkF m 137 #[.val (.int xl), .val (.int y1), .val (.int y2), .val (.int y3), .val (.int xn), .val (.int (4 : Int32)), .unset] [(.int (4 : Int32))])) tgt
                  refine XS.iconst X20.here hx rfl (hb hby d2_137) ?_
                  show Steps p.tables e below (T20.setTop (mkF m 138 #[.val (.int xl), .val (.int y1), .val (.int y2), .val (.int y3), .val (.int xn), .val (.int (4 : Int32)), .unset] [(.int (3 : Int32)), (.int (4 : Int32))])) tgt
                  refine XS.icmpYes X20.here hx rfl (pc0 := 138) (pc' := 191) rfl (hb hby d2_138) rfl (feq (by decide : ¬ ((4 : Int32) = (3 : Int32)))).2 (by decide) (by decide) ?_
                  show Steps p.tables e below (T20.setTop (mkF m 191 #[.val (.int xl), .val (.int y1), .val (.int y2), .val (.int y3), .val (.int xn), .val (.int (4 : Int32)), .unset] [])) tgt
                  refine XS.iloadN X20.here hx rfl (hb hby d2_191) rfl ?_
                  show Steps p.tables e below (T20.setTop (mkF m 192 #[.val (.int xl), .val (.int y1), .val (.int y2), .val (.int y3), .val (.int xn), .val (.int (4 : Int32)), .unset] [(.int xl)])) tgt
                  refine XS.bipush X20.here hx rfl (hb hby d2_192) ?_
                  show Steps p.tables e below (T20.setTop (mkF m 194 #[.val (.int xl), .val (.int y1), .val (.int y2), .val (.int y3), .val (.int xn), .val (.int (4 : Int32)), .unset] [(.int (7 : Int32)), (.int xl)])) tgt
                  refine XS.iand X20.here hx rfl (hb hby d2_194) rfl ?_
                  show Steps p.tables e below (T20.setTop (mkF m 195 #[.val (.int xl), .val (.int y1), .val (.int y2), .val (.int y3), .val (.int xn), .val (.int (4 : Int32)), .unset] [(.int (xl &&& (7 : Int32)))])) tgt
                  refine XS.bipush X20.here hx rfl (hb hby d2_195) ?_
                  show Steps p.tables e below (T20.setTop (mkF m 197 #[.val (.int xl), .val (.int y1), .val (.int y2), .val (.int y3), .val (.int xn), .val (.int (4 : Int32)), .unset] [(.int (18 : Int32)), (.int (xl &&& (7 : Int32)))])) tgt
                  refine XS.ishl X20.here hx rfl (hb hby d2_197) rfl ?_
                  show Steps p.tables e below (T20.setTop (mkF m 198 #[.val (.int xl), .val (.int y1), .val (.int y2), .val (.int y3), .val (.int xn), .val (.int (4 : Int32)), .unset] [(.int ((xl &&& (7 : Int32)) <<< ((18 : Int32) &&& 31)))])) tgt
                  refine XS.iloadN X20.here hx rfl (hb hby d2_198) rfl ?_
                  show Steps p.tables e below (T20.setTop (mkF m 199 #[.val (.int xl), .val (.int y1), .val (.int y2), .val (.int y3), .val (.int xn), .val (.int (4 : Int32)), .unset] [(.int y1), (.int ((xl &&& (7 : Int32)) <<< ((18 : Int32) &&& 31)))])) tgt
                  refine XS.bipush X20.here hx rfl (hb hby d2_199) ?_
                  show Steps p.tables e below (T20.setTop (mkF m 201 #[.val (.int xl), .val (.int y1), .val (.int y2), .val (.int y3), .val (.int xn), .val (.int (4 : Int32)), .unset] [(.int (63 : Int32)), (.int y1), (.int ((xl &&& (7 : Int32)) <<< ((18 : Int32) &&& 31)))])) tgt
                  refine XS.iand X20.here hx rfl (hb hby d2_201) rfl ?_
                  show Steps p.tables e below (T20.setTop (mkF m 202 #[.val (.int xl), .val (.int y1), .val (.int y2), .val (.int y3), .val (.int xn), .val (.int (4 : Int32)), .unset] [(.int (y1 &&& (63 : Int32))), (.int ((xl &&& (7 : Int32)) <<< ((18 : Int32) &&& 31)))])) tgt
                  refine XS.bipush X20.here hx rfl (hb hby d2_202) ?_
                  show Steps p.tables e below (T20.setTop (mkF m 204 #[.val (.int xl), .val (.int y1), .val (.int y2), .val (.int y3), .val (.int xn), .val (.int (4 : Int32)), .unset] [(.int (12 : Int32)), (.int (y1 &&& (63 : Int32))), (.int ((xl &&& (7 : Int32)) <<< ((18 : Int32) &&& 31)))])) tgt
                  refine XS.ishl X20.here hx rfl (hb hby d2_204) rfl ?_
                  show Steps p.tables e below (T20.setTop (mkF m 205 #[.val (.int xl), .val (.int y1), .val (.int y2), .val (.int y3), .val (.int xn), .val (.int (4 : Int32)), .unset] [(.int ((y1 &&& (63 : Int32)) <<< ((12 : Int32) &&& 31))), (.int ((xl &&& (7 : Int32)) <<< ((18 : Int32) &&& 31)))])) tgt
                  refine XS.ior X20.here hx rfl (hb hby d2_205) rfl ?_
                  show Steps p.tables e below (T20.setTop (mkF m 206 #[.val (.int xl), .val (.int y1), .val (.int y2), .val (.int y3), .val (.int xn), .val (.int (4 : Int32)), .unset] [(.int (((xl &&& (7 : Int32)) <<< ((18 : Int32) &&& 31)) ||| ((y1 &&& (63 : Int32)) <<< ((12 : Int32) &&& 31))))])) tgt
                  refine XS.iloadN X20.here hx rfl (hb hby d2_206) rfl ?_
                  show Steps p.tables e below (T20.setTop (mkF m 207 #[.val (.int xl), .val (.int y1), .val (.int y2), .val (.int y3), .val (.int xn), .val (.int (4 : Int32)), .unset] [(.int y2), (.int (((xl &&& (7 : Int32)) <<< ((18 : Int32) &&& 31)) ||| ((y1 &&& (63 : Int32)) <<< ((12 : Int32) &&& 31))))])) tgt
                  refine XS.bipush X20.here hx rfl (hb hby d2_207) ?_
                  show Steps p.tables e below (T20.setTop (mkF m 209 #[.val (.int xl), .val (.int y1), .val (.int y2), .val (.int y3), .val (.int xn), .val (.int (4 : Int32)), .unset] [(.int (63 : Int32)), (.int y2), (.int (((xl &&& (7 : Int32)) <<< ((18 : Int32) &&& 31)) ||| ((y1 &&& (63 : Int32)) <<< ((12 : Int32) &&& 31))))])) tgt
                  refine XS.iand X20.here hx rfl (hb hby d2_209) rfl ?_
                  show Steps p.tables e below (T20.setTop (mkF m 210 #[.val (.int xl), .val (.int y1), .val (.int y2), .val (.int y3), .val (.int xn), .val (.int (4 : Int32)), .unset] [(.int (y2 &&& (63 : Int32))), (.int (((xl &&& (7 : Int32)) <<< ((18 : Int32) &&& 31)) ||| ((y1 &&& (63 : Int32)) <<< ((12 : Int32) &&& 31))))])) tgt
                  refine XS.bipush X20.here hx rfl (hb hby d2_210) ?_
                  show Steps p.tables e below (T20.setTop (mkF m 212 #[.val (.int xl), .val (.int y1), .val (.int y2), .val (.int y3), .val (.int xn), .val (.int (4 : Int32)), .unset] [(.int (6 : Int32)), (.int (y2 &&& (63 : Int32))), (.int (((xl &&& (7 : Int32)) <<< ((18 : Int32) &&& 31)) ||| ((y1 &&& (63 : Int32)) <<< ((12 : Int32) &&& 31))))])) tgt
                  refine XS.ishl X20.here hx rfl (hb hby d2_212) rfl ?_
                  show Steps p.tables e below (T20.setTop (mkF m 213 #[.val (.int xl), .val (.int y1), .val (.int y2), .val (.int y3), .val (.int xn), .val (.int (4 : Int32)), .unset] [(.int ((y2 &&& (63 : Int32)) <<< ((6 : Int32) &&& 31))), (.int (((xl &&& (7 : Int32)) <<< ((18 : Int32) &&& 31)) ||| ((y1 &&& (63 : Int32)) <<< ((12 : Int32) &&& 31))))])) tgt
                  refine XS.ior X20.here hx rfl (hb hby d2_213) rfl ?_
                  show Steps p.tables e below (T20.setTop (mkF m 214 #[.val (.int xl), .val (.int y1), .val (.int y2), .val (.int y3), .val (.int xn), .val (.int (4 : Int32)), .unset] [(.int ((((xl &&& (7 : Int32)) <<< ((18 : Int32) &&& 31)) ||| ((y1 &&& (63 : Int32)) <<< ((12 : Int32) &&& 31))) ||| ((y2 &&& (63 : Int32)) <<< ((6 : Int32) &&& 31))))])) tgt
                  refine XS.iloadN X20.here hx rfl (hb hby d2_214) rfl ?_
                  show Steps p.tables e below (T20.setTop (mkF m 215 #[.val (.int xl), .val (.int y1), .val (.int y2), .val (.int y3), .val (.int xn), .val (.int (4 : Int32)), .unset] [(.int y3), (.int ((((xl &&& (7 : Int32)) <<< ((18 : Int32) &&& 31)) ||| ((y1 &&& (63 : Int32)) <<< ((12 : Int32) &&& 31))) ||| ((y2 &&& (63 : Int32)) <<< ((6 : Int32) &&& 31))))])) tgt
                  refine XS.bipush X20.here hx rfl (hb hby d2_215) ?_
                  show Steps p.tables e below (T20.setTop (mkF m 217 #[.val (.int xl), .val (.int y1), .val (.int y2), .val (.int y3), .val (.int xn), .val (.int (4 : Int32)), .unset] [(.int (63 : Int32)), (.int y3), (.int ((((xl &&& (7 : Int32)) <<< ((18 : Int32) &&& 31)) ||| ((y1 &&& (63 : Int32)) <<< ((12 : Int32) &&& 31))) ||| ((y2 &&& (63 : Int32)) <<< ((6 : Int32) &&& 31))))])) tgt
                  refine XS.iand X20.here hx rfl (hb hby d2_217) rfl ?_
                  show Steps p.tables e below (T20.setTop (mkF m 218 #[.val (.int xl), .val (.int y1), .val (.int y2), .val (.int y3), .val (.int xn), .val (.int (4 : Int32)), .unset] [(.int (y3 &&& (63 : Int32))), (.int ((((xl &&& (7 : Int32)) <<< ((18 : Int32) &&& 31)) ||| ((y1 &&& (63 : Int32)) <<< ((12 : Int32) &&& 31))) ||| ((y2 &&& (63 : Int32)) <<< ((6 : Int32) &&& 31))))])) tgt
                  refine XS.ior X20.here hx rfl (hb hby d2_218) rfl ?_
                  show Steps p.tables e below (T20.setTop (mkF m 219 #[.val (.int xl), .val (.int y1), .val (.int y2), .val (.int y3), .val (.int xn), .val (.int (4 : Int32)), .unset] [(.int (((((xl &&& (7 : Int32)) <<< ((18 : Int32) &&& 31)) ||| ((y1 &&& (63 : Int32)) <<< ((12 : Int32) &&& 31))) ||| ((y2 &&& (63 : Int32)) <<< ((6 : Int32) &&& 31))) ||| (y3 &&& (63 : Int32))))])) tgt
                  refine XS.istore X20.here hx rfl (hb hby d2_219) rfl (l' := #[.val (.int xl), .val (.int y1), .val (.int y2), .val (.int y3), .val (.int xn), .val (.int (4 : Int32)), .val (.int (((((xl &&& (7 : Int32)) <<< ((18 : Int32) &&& 31)) ||| ((y1 &&& (63 : Int32)) <<< ((12 : Int32) &&& 31))) ||| ((y2 &&& (63 : Int32)) <<< ((6 : Int32) &&& 31))) ||| (y3 &&& (63 : Int32))))]) rfl ?_
                  show Steps p.tables e below (T20.setTop (mkF m 221 #[.val (.int xl), .val (.int y1), .val (.int y2), .val (.int y3), .val (.int xn), .val (.int (4 : Int32)), .val (.int (((((xl &&& (7 : Int32)) <<< ((18 : Int32) &&& 31)) ||| ((y1 &&& (63 : Int32)) <<< ((12 : Int32) &&& 31))) ||| ((y2 &&& (63 : Int32)) <<< ((6 : Int32) &&& 31))) ||| (y3 &&& (63 : Int32))))] [])) tgt
                  refine XS.iload X20.here hx rfl (hb hby d2_221) rfl ?_
                  show Steps p.tables e below (T20.setTop (mkF m 223 #[.val (.int xl), .val (.int y1), .val (.int y2), .val (.int y3), .val (.int xn), .val (.int (4 : Int32)), .val (.int (((((xl &&& (7 : Int32)) <<< ((18 : Int32) &&& 31)) ||| ((y1 &&& (63 : Int32)) <<< ((12 : Int32) &&& 31))) ||| ((y2 &&& (63 : Int32)) <<< ((6 : Int32) &&& 31))) ||| (y3 &&& (63 : Int32))))] [(.int (((((xl &&& (7 : Int32)) <<< ((18 : Int32) &&& 31)) ||| ((y1 &&& (63 : Int32)) <<< ((12 : Int32) &&& 31))) ||| ((y2 &&& (63 : Int32)) <<< ((6 : Int32) &&& 31))) ||| (y3 &&& (63 : Int32))))])) tgt
                  refine X20.ldcInt hx hown (mvT hZ (hw _ (List.mem_of_getElem? (i := 15) rfl))) (g := (mkF m 223 #[.val (.int xl), .val (.int y1), .val (.int y2), .val (.int y3), .val (.int xn), .val (.int (4 : Int32)), .val (.int (((((xl &&& (7 : Int32)) <<< ((18 : Int32) &&& 31)) ||| ((y1 &&& (63 : Int32)) <<< ((12 : Int32) &&& 31))) ||| ((y2 &&& (63 : Int32)) <<< ((6 : Int32) &&& 31))) ||| (y3 &&& (63 : Int32))))] [(.int (((((xl &&& (7 : Int32)) <<< ((18 : Int32) &&& 31)) ||| ((y1 &&& (63 : Int32)) <<< ((12 : Int32) &&& 31))) ||| ((y2 &&& (63 : Int32)) <<< ((6 : Int32) &&& 31))) ||| (y3 &&& (63 : Int32))))])) rfl (hb hby d2_223) _ ?_
                  exact k
                by_cases hc225 : (((((xl &&& (7 : Int32)) <<< ((18 : Int32) &&& 31)) ||| ((y1 &&& (63 : Int32)) <<< ((12 : Int32) &&& 31))) ||| ((y2 &&& (63 : Int32)) <<< ((6 : Int32) &&& 31))) ||| (y3 &&& (63 : Int32))) < (65536 : Int32)
                · skip
                  refine own_st (V := T20.setTop (mkF m 236 #[.val (.int xl), .val (.int y1), .val (.int y2), .val (.int y3), .val (.int xn), .val (.int (4 : Int32)), .val (.int (((((xl &&& (7 : Int32)) <<< ((18 : Int32) &&& 31)) ||| ((y1 &&& (63 : Int32)) <<< ((12 : Int32) &&& 31))) ||| ((y2 &&& (63 : Int32)) <<< ((6 : Int32) &&& 31))) ||| (y3 &&& (63 : Int32))))] [(.int (0 : Int32))])) (fun tgt k => ?_) ?_
                  · show Steps p.tables e below (T20.setTop (mkF m 225 #[.val (.int xl), .val (.int y1), .val (.int y2), .val (.int y3), .val (.int xn), .val (.int (4 : Int32)), .val (.int (((((xl &&& (7 : Int32)) <<< ((18 : Int32) &&& 31)) ||| ((y1 &&& (63 : Int32)) <<< ((12 : Int32) &&& 31))) ||| ((y2 &&& (63 : Int32)) <<< ((6 : Int32) &&& 31))) ||| (y3 &&& (63 : Int32))))] [(.int (65536 : Int32)), (.int (((((xl &&& (7 : Int32)) <<< ((18 : Int32) &&& 31)) ||| ((y1 &&& (63 : Int32)) <<< ((12 : Int32) &&& 31))) ||| ((y2 &&& (63 : Int32)) <<< ((6 : Int32) &&& 31))) ||| (y3 &&& (63 : Int32))))])) tgt
                    refine XS.icmpYes X20.here hx rfl (pc0 := 225) (pc' := 235) rfl (hb hby d2_225) rfl (tlt hc225).1 (by decide) (by decide) ?_
                    show Steps p.tables e below (T20.setTop (mkF m 235 #[.val (.int xl), .val (.int y1), .val (.int y2), .val (.int y3), .val (.int xn), .val (.int (4 : Int32)), .val (.int (((((xl &&& (7 : Int32)) <<< ((18 : Int32) &&& 31)) ||| ((y1 &&& (63 : Int32)) <<< ((12 : Int32) &&& 31))) ||| ((y2 &&& (63 : Int32)) <<< ((6 : Int32) &&& 31))) ||| (y3 &&& (63 : Int32))))] [])) tgt
                    refine XS.iconst X20.here hx rfl (hb hby d2_235) ?_
                    exact k
                  refine own_retI X20 hx hlk Bd.returns (hb hby d2_236) ?_ (by decide) (by decide)
                  show Q2 Z xl y1 y2 y3 xn h0 n0 (some (.int (0 : Int32))) T20.heap _
                  rw [K20]
                  refine ⟨?_, N20, rfl⟩
                  exact congrArg (fun q => some (Value.int q)) (by unfold own_ex; rw [if_neg hc8, if_neg hc25, if_pos hc42, if_neg hc57, if_neg hc66, if_neg hc81, if_neg hc96, if_pos hc225])
                · skip
                  refine own_st (V := T20.setTop (mkF m 232 #[.val (.int xl), .val (.int y1), .val (.int y2), .val (.int y3), .val (.int xn), .val (.int (4 : Int32)), .val (.int (((((xl &&& (7 : Int32)) <<< ((18 : Int32) &&& 31)) ||| ((y1 &&& (63 : Int32)) <<< ((12 : Int32) &&& 31))) ||| ((y2 &&& (63 : Int32)) <<< ((6 : Int32) &&& 31))) ||| (y3 &&& (63 : Int32))))] [(.int (1114111 : Int32)), (.int (((((xl &&& (7 : Int32)) <<< ((18 : Int32) &&& 31)) ||| ((y1 &&& (63 : Int32)) <<< ((12 : Int32) &&& 31))) ||| ((y2 &&& (63 : Int32)) <<< ((6 : Int32) &&& 31))) ||| (y3 &&& (63 : Int32))))])) (fun tgt k => ?_) ?_
                  · show Steps p.tables e below (T20.setTop (mkF m 225 #[.val (.int xl), .val (.int y1), .val (.int y2), .val (.int y3), .val (.int xn), .val (.int (4 : Int32)), .val (.int (((((xl &&& (7 : Int32)) <<< ((18 : Int32) &&& 31)) ||| ((y1 &&& (63 : Int32)) <<< ((12 : Int32) &&& 31))) ||| ((y2 &&& (63 : Int32)) <<< ((6 : Int32) &&& 31))) ||| (y3 &&& (63 : Int32))))] [(.int (65536 : Int32)), (.int (((((xl &&& (7 : Int32)) <<< ((18 : Int32) &&& 31)) ||| ((y1 &&& (63 : Int32)) <<< ((12 : Int32) &&& 31))) ||| ((y2 &&& (63 : Int32)) <<< ((6 : Int32) &&& 31))) ||| (y3 &&& (63 : Int32))))])) tgt
                    refine XS.icmpNo X20.here hx rfl (hb hby d2_225) rfl (flt hc225).1 ?_
                    show Steps p.tables e below (T20.setTop (mkF m 228 #[.val (.int xl), .val (.int y1), .val (.int y2), .val (.int y3), .val (.int xn), .val (.int (4 : Int32)), .val (.int (((((xl &&& (7 : Int32)) <<< ((18 : Int32) &&& 31)) ||| ((y1 &&& (63 : Int32)) <<< ((12 : Int32) &&& 31))) ||| ((y2 &&& (63 : Int32)) <<< ((6 : Int32) &&& 31))) ||| (y3 &&& (63 : Int32))))] [])) tgt
                    refine XS.iload X20.here hx rfl (hb hby d2_228) rfl ?_
                    show Steps p.tables e below (T20.setTop (mkF m 230 #[.val (.int xl), .val (.int y1), .val (.int y2), .val (.int y3), .val (.int xn), .val (.int (4 : Int32)), .val (.int (((((xl &&& (7 : Int32)) <<< ((18 : Int32) &&& 31)) ||| ((y1 &&& (63 : Int32)) <<< ((12 : Int32) &&& 31))) ||| ((y2 &&& (63 : Int32)) <<< ((6 : Int32) &&& 31))) ||| (y3 &&& (63 : Int32))))] [(.int (((((xl &&& (7 : Int32)) <<< ((18 : Int32) &&& 31)) ||| ((y1 &&& (63 : Int32)) <<< ((12 : Int32) &&& 31))) ||| ((y2 &&& (63 : Int32)) <<< ((6 : Int32) &&& 31))) ||| (y3 &&& (63 : Int32))))])) tgt
                    refine X20.ldcInt hx hown (mvT hZ (hw _ (List.mem_of_getElem? (i := 16) rfl))) (g := (mkF m 230 #[.val (.int xl), .val (.int y1), .val (.int y2), .val (.int y3), .val (.int xn), .val (.int (4 : Int32)), .val (.int (((((xl &&& (7 : Int32)) <<< ((18 : Int32) &&& 31)) ||| ((y1 &&& (63 : Int32)) <<< ((12 : Int32) &&& 31))) ||| ((y2 &&& (63 : Int32)) <<< ((6 : Int32) &&& 31))) ||| (y3 &&& (63 : Int32))))] [(.int (((((xl &&& (7 : Int32)) <<< ((18 : Int32) &&& 31)) ||| ((y1 &&& (63 : Int32)) <<< ((12 : Int32) &&& 31))) ||| ((y2 &&& (63 : Int32)) <<< ((6 : Int32) &&& 31))) ||| (y3 &&& (63 : Int32))))])) rfl (hb hby d2_230) _ ?_
                    exact k
                  by_cases hc232 : (1114111 : Int32) < (((((xl &&& (7 : Int32)) <<< ((18 : Int32) &&& 31)) ||| ((y1 &&& (63 : Int32)) <<< ((12 : Int32) &&& 31))) ||| ((y2 &&& (63 : Int32)) <<< ((6 : Int32) &&& 31))) ||| (y3 &&& (63 : Int32)))
                  · skip
                    refine own_st (V := T20.setTop (mkF m 236 #[.val (.int xl), .val (.int y1), .val (.int y2), .val (.int y3), .val (.int xn), .val (.int (4 : Int32)), .val (.int (((((xl &&& (7 : Int32)) <<< ((18 : Int32) &&& 31)) ||| ((y1 &&& (63 : Int32)) <<< ((12 : Int32) &&& 31))) ||| ((y2 &&& (63 : Int32)) <<< ((6 : Int32) &&& 31))) ||| (y3 &&& (63 : Int32))))] [(.int (0 : Int32))])) (fun tgt k => ?_) ?_
                    · show Steps p.tables e below (T20.setTop (mkF m 232 #[.val (.int xl), .val (.int y1), .val (.int y2), .val (.int y3), .val (.int xn), .val (.int (4 : Int32)), .val (.int (((((xl &&& (7 : Int32)) <<< ((18 : Int32) &&& 31)) ||| ((y1 &&& (63 : Int32)) <<< ((12 : Int32) &&& 31))) ||| ((y2 &&& (63 : Int32)) <<< ((6 : Int32) &&& 31))) ||| (y3 &&& (63 : Int32))))] [(.int (1114111 : Int32)), (.int (((((xl &&& (7 : Int32)) <<< ((18 : Int32) &&& 31)) ||| ((y1 &&& (63 : Int32)) <<< ((12 : Int32) &&& 31))) ||| ((y2 &&& (63 : Int32)) <<< ((6 : Int32) &&& 31))) ||| (y3 &&& (63 : Int32))))])) tgt
                      refine XS.icmpNo X20.here hx rfl (hb hby d2_232) rfl (tlt hc232).2.2.2 ?_
                      show Steps p.tables e below (T20.setTop (mkF m 235 #[.val (.int xl), .val (.int y1), .val (.int y2), .val (.int y3), .val (.int xn), .val (.int (4 : Int32)), .val (.int (((((xl &&& (7 : Int32)) <<< ((18 : Int32) &&& 31)) ||| ((y1 &&& (63 : Int32)) <<< ((12 : Int32) &&& 31))) ||| ((y2 &&& (63 : Int32)) <<< ((6 : Int32) &&& 31))) ||| (y3 &&& (63 : Int32))))] [])) tgt
                      refine XS.iconst X20.here hx rfl (hb hby d2_235) ?_
                      exact k
                    refine own_retI X20 hx hlk Bd.returns (hb hby d2_236) ?_ (by decide) (by decide)
                    show Q2 Z xl y1 y2 y3 xn h0 n0 (some (.int (0 : Int32))) T20.heap _
                    rw [K20]
                    refine ⟨?_, N20, rfl⟩
                    exact congrArg (fun q => some (Value.int q)) (by unfold own_ex; rw [if_neg hc8, if_neg hc25, if_pos hc42, if_neg hc57, if_neg hc66, if_neg hc81, if_neg hc96, if_neg hc225, if_pos hc232])
                  · skip
                    refine own_st (V := T20.setTop (mkF m 238 #[.val (.int xl), .val (.int y1), .val (.int y2), .val (.int y3), .val (.int xn), .val (.int (4 : Int32)), .val (.int (((((xl &&& (7 : Int32)) <<< ((18 : Int32) &&& 31)) ||| ((y1 &&& (63 : Int32)) <<< ((12 : Int32) &&& 31))) ||| ((y2 &&& (63 : Int32)) <<< ((6 : Int32) &&& 31))) ||| (y3 &&& (63 : Int32))))] [(.int (4 : Int32))])) (fun tgt k => ?_) ?_
                    · show Steps p.tables e below (T20.setTop (mkF m 232 #[.val (.int xl), .val (.int y1), .val (.int y2), .val (.int y3), .val (.int xn), .val (.int (4 : Int32)), .val (.int (((((xl &&& (7 : Int32)) <<< ((18 : Int32) &&& 31)) ||| ((y1 &&& (63 : Int32)) <<< ((12 : Int32) &&& 31))) ||| ((y2 &&& (63 : Int32)) <<< ((6 : Int32) &&& 31))) ||| (y3 &&& (63 : Int32))))] [(.int (1114111 : Int32)), (.int (((((xl &&& (7 : Int32)) <<< ((18 : Int32) &&& 31)) ||| ((y1 &&& (63 : Int32)) <<< ((12 : Int32) &&& 31))) ||| ((y2 &&& (63 : Int32)) <<< ((6 : Int32) &&& 31))) ||| (y3 &&& (63 : Int32))))])) tgt
                      refine XS.icmpYes X20.here hx rfl (pc0 := 232) (pc' := 237) rfl (hb hby d2_232) rfl (flt hc232).2.2.2 (by decide) (by decide) ?_
                      show Steps p.tables e below (T20.setTop (mkF m 237 #[.val (.int xl), .val (.int y1), .val (.int y2), .val (.int y3), .val (.int xn), .val (.int (4 : Int32)), .val (.int (((((xl &&& (7 : Int32)) <<< ((18 : Int32) &&& 31)) ||| ((y1 &&& (63 : Int32)) <<< ((12 : Int32) &&& 31))) ||| ((y2 &&& (63 : Int32)) <<< ((6 : Int32) &&& 31))) ||| (y3 &&& (63 : Int32))))] [])) tgt
                      refine XS.iconst X20.here hx rfl (hb hby d2_237) ?_
                      exact k
                    refine own_retI X20 hx hlk Bd.returns (hb hby d2_238) ?_ (by decide) (by decide)
                    show Q2 Z xl y1 y2 y3 xn h0 n0 (some (.int (4 : Int32))) T20.heap _
                    rw [K20]
                    refine ⟨?_, N20, rfl⟩
                    exact congrArg (fun q => some (Value.int q)) (by unfold own_ex; rw [if_neg hc8, if_neg hc25, if_pos hc42, if_neg hc57, if_neg hc66, if_neg hc81, if_neg hc96, if_neg hc225, if_neg hc232])
      · skip
        refine own_st (V := s₁.setTop (mkF m 52 #[.val (.int xl), .val (.int y1), .val (.int y2), .val (.int y3), .val (.int xn), .unset, .unset] [(.int (0 : Int32))])) (fun tgt k => ?_) ?_
        · show Steps p.tables e below (s₁.setTop (mkF m 42 #[.val (.int xl), .val (.int y1), .val (.int y2), .val (.int y3), .val (.int xn), .unset, .unset] [(.int (240 : Int32)), (.int (xl &&& (248 : Int32)))])) tgt
          refine XS.icmpYes X0.here hx rfl (pc0 := 42) (pc' := 51) rfl (hb hby d2_42) rfl (feq hc42).2 (by decide) (by decide) ?_
          show Steps p.tables e below (s₁.setTop (mkF m 51 #[.val (.int xl), .val (.int y1), .val (.int y2), .val (.int y3), .val (.int xn), .unset, .unset] [])) tgt
          refine XS.iconst X0.here hx rfl (hb hby d2_51) ?_
          exact k
        refine own_retI X0 hx hlk Bd.returns (hb hby d2_52) ?_ (by decide) (by decide)
        show Q2 Z xl y1 y2 y3 xn h0 n0 (some (.int (0 : Int32))) s₁.heap _
        rw [e0]
        refine ⟨?_, N0, rfl⟩
        exact congrArg (fun q => some (Value.int q)) (by unfold own_ex; rw [if_neg hc8, if_neg hc25, if_neg hc42])
theorem d1_0 : decode prog_48_method_35_code 0 = .ok (.aload_n 0, 1) := by decide +kernel
theorem d1_1 : decode prog_48_method_35_code 1 = .ok (.iload_n 1, 1) := by decide +kernel
theorem d1_2 : decode prog_48_method_35_code 2 = .ok (.baload, 1) := by decide +kernel
theorem d1_3 : decode prog_48_method_35_code 3 = .ok (.sipush 255, 3) := by decide +kernel
theorem d1_6 : decode prog_48_method_35_code 6 = .ok (.iand, 1) := by decide +kernel
theorem d1_7 : decode prog_48_method_35_code 7 = .ok (.istore_n 3, 1) := by decide +kernel
theorem d1_8 : decode prog_48_method_35_code 8 = .ok (.sipush 128, 3) := by decide +kernel
theorem d1_11 : decode prog_48_method_35_code 11 = .ok (.istore 5, 2) := by decide +kernel
theorem d1_13 : decode prog_48_method_35_code 13 = .ok (.sipush 191, 3) := by decide +kernel
theorem d1_16 : decode prog_48_method_35_code 16 = .ok (.istore 6, 2) := by decide +kernel
theorem d1_18 : decode prog_48_method_35_code 18 = .ok (.iload_n 3, 1) := by decide +kernel
theorem d1_19 : decode prog_48_method_35_code 19 = .ok (.sipush 194, 3) := by decide +kernel
theorem d1_22 : decode prog_48_method_35_code 22 = .ok (.if_icmp .ge 9, 3) := by decide +kernel
theorem d1_25 : decode prog_48_method_35_code 25 = .ok (.iconst 0, 1) := by decide +kernel
theorem d1_26 : decode prog_48_method_35_code 26 = .ok (.istore 4, 2) := by decide +kernel
theorem d1_28 : decode prog_48_method_35_code 28 = .ok (.goto 113, 3) := by decide +kernel
theorem d1_31 : decode prog_48_method_35_code 31 = .ok (.iload_n 3, 1) := by decide +kernel
theorem d1_32 : decode prog_48_method_35_code 32 = .ok (.sipush 224, 3) := by decide +kernel
theorem d1_35 : decode prog_48_method_35_code 35 = .ok (.if_icmp .ge 9, 3) := by decide +kernel
theorem d1_38 : decode prog_48_method_35_code 38 = .ok (.iconst 2, 1) := by decide +kernel
theorem d1_39 : decode prog_48_method_35_code 39 = .ok (.istore 4, 2) := by decide +kernel
theorem d1_41 : decode prog_48_method_35_code 41 = .ok (.goto 100, 3) := by decide +kernel
theorem d1_44 : decode prog_48_method_35_code 44 = .ok (.iload_n 3, 1) := by decide +kernel
theorem d1_45 : decode prog_48_method_35_code 45 = .ok (.sipush 240, 3) := by decide +kernel
theorem d1_48 : decode prog_48_method_35_code 48 = .ok (.if_icmp .ge 43, 3) := by decide +kernel
theorem d1_51 : decode prog_48_method_35_code 51 = .ok (.iconst 3, 1) := by decide +kernel
theorem d1_52 : decode prog_48_method_35_code 52 = .ok (.istore 4, 2) := by decide +kernel
theorem d1_54 : decode prog_48_method_35_code 54 = .ok (.iload_n 3, 1) := by decide +kernel
theorem d1_55 : decode prog_48_method_35_code 55 = .ok (.sipush 224, 3) := by decide +kernel
theorem d1_58 : decode prog_48_method_35_code 58 = .ok (.if_icmp .ne 9, 3) := by decide +kernel
theorem d1_61 : decode prog_48_method_35_code 61 = .ok (.sipush 160, 3) := by decide +kernel
theorem d1_64 : decode prog_48_method_35_code 64 = .ok (.goto 5, 3) := by decide +kernel
theorem d1_67 : decode prog_48_method_35_code 67 = .ok (.iload 5, 2) := by decide +kernel
theorem d1_69 : decode prog_48_method_35_code 69 = .ok (.istore 5, 2) := by decide +kernel
theorem d1_71 : decode prog_48_method_35_code 71 = .ok (.iload_n 3, 1) := by decide +kernel
theorem d1_72 : decode prog_48_method_35_code 72 = .ok (.sipush 237, 3) := by decide +kernel
theorem d1_75 : decode prog_48_method_35_code 75 = .ok (.if_icmp .ne 9, 3) := by decide +kernel
theorem d1_78 : decode prog_48_method_35_code 78 = .ok (.sipush 159, 3) := by decide +kernel
theorem d1_81 : decode prog_48_method_35_code 81 = .ok (.goto 5, 3) := by decide +kernel
theorem d1_84 : decode prog_48_method_35_code 84 = .ok (.iload 6, 2) := by decide +kernel
theorem d1_86 : decode prog_48_method_35_code 86 = .ok (.istore 6, 2) := by decide +kernel
theorem d1_88 : decode prog_48_method_35_code 88 = .ok (.goto 53, 3) := by decide +kernel
theorem d1_91 : decode prog_48_method_35_code 91 = .ok (.iload_n 3, 1) := by decide +kernel
theorem d1_92 : decode prog_48_method_35_code 92 = .ok (.sipush 245, 3) := by decide +kernel
theorem d1_95 : decode prog_48_method_35_code 95 = .ok (.if_icmp .ge 43, 3) := by decide +kernel
theorem d1_98 : decode prog_48_method_35_code 98 = .ok (.iconst 4, 1) := by decide +kernel
theorem d1_99 : decode prog_48_method_35_code 99 = .ok (.istore 4, 2) := by decide +kernel
theorem d1_101 : decode prog_48_method_35_code 101 = .ok (.iload_n 3, 1) := by decide +kernel
theorem d1_102 : decode prog_48_method_35_code 102 = .ok (.sipush 240, 3) := by decide +kernel
theorem d1_105 : decode prog_48_method_35_code 105 = .ok (.if_icmp .ne 9, 3) := by decide +kernel
theorem d1_108 : decode prog_48_method_35_code 108 = .ok (.sipush 144, 3) := by decide +kernel
theorem d1_111 : decode prog_48_method_35_code 111 = .ok (.goto 5, 3) := by decide +kernel
theorem d1_114 : decode prog_48_method_35_code 114 = .ok (.iload 5, 2) := by decide +kernel
theorem d1_116 : decode prog_48_method_35_code 116 = .ok (.istore 5, 2) := by decide +kernel
theorem d1_118 : decode prog_48_method_35_code 118 = .ok (.iload_n 3, 1) := by decide +kernel
theorem d1_119 : decode prog_48_method_35_code 119 = .ok (.sipush 244, 3) := by decide +kernel
theorem d1_122 : decode prog_48_method_35_code 122 = .ok (.if_icmp .ne 9, 3) := by decide +kernel
theorem d1_125 : decode prog_48_method_35_code 125 = .ok (.sipush 143, 3) := by decide +kernel
theorem d1_128 : decode prog_48_method_35_code 128 = .ok (.goto 5, 3) := by decide +kernel
theorem d1_131 : decode prog_48_method_35_code 131 = .ok (.iload 6, 2) := by decide +kernel
theorem d1_133 : decode prog_48_method_35_code 133 = .ok (.istore 6, 2) := by decide +kernel
theorem d1_135 : decode prog_48_method_35_code 135 = .ok (.goto 6, 3) := by decide +kernel
theorem d1_138 : decode prog_48_method_35_code 138 = .ok (.iconst 0, 1) := by decide +kernel
theorem d1_139 : decode prog_48_method_35_code 139 = .ok (.istore 4, 2) := by decide +kernel
theorem d1_141 : decode prog_48_method_35_code 141 = .ok (.iload 4, 2) := by decide +kernel
theorem d1_143 : decode prog_48_method_35_code 143 = .ok (.ifCond .eq 11, 3) := by decide +kernel
theorem d1_146 : decode prog_48_method_35_code 146 = .ok (.iload 4, 2) := by decide +kernel
theorem d1_148 : decode prog_48_method_35_code 148 = .ok (.iload_n 2, 1) := by decide +kernel
theorem d1_149 : decode prog_48_method_35_code 149 = .ok (.iload_n 1, 1) := by decide +kernel
theorem d1_150 : decode prog_48_method_35_code 150 = .ok (.isub, 1) := by decide +kernel
theorem d1_151 : decode prog_48_method_35_code 151 = .ok (.if_icmp .le 5, 3) := by decide +kernel
theorem d1_154 : decode prog_48_method_35_code 154 = .ok (.iconst 0, 1) := by decide +kernel
theorem d1_155 : decode prog_48_method_35_code 155 = .ok (.ireturn, 1) := by decide +kernel
theorem d1_156 : decode prog_48_method_35_code 156 = .ok (.aload_n 0, 1) := by decide +kernel
theorem d1_157 : decode prog_48_method_35_code 157 = .ok (.iload_n 1, 1) := by decide +kernel
theorem d1_158 : decode prog_48_method_35_code 158 = .ok (.iconst 1, 1) := by decide +kernel
theorem d1_159 : decode prog_48_method_35_code 159 = .ok (.iadd, 1) := by decide +kernel
theorem d1_160 : decode prog_48_method_35_code 160 = .ok (.baload, 1) := by decide +kernel
theorem d1_161 : decode prog_48_method_35_code 161 = .ok (.sipush 255, 3) := by decide +kernel
theorem d1_164 : decode prog_48_method_35_code 164 = .ok (.iand, 1) := by decide +kernel
theorem d1_165 : decode prog_48_method_35_code 165 = .ok (.istore 7, 2) := by decide +kernel
theorem d1_167 : decode prog_48_method_35_code 167 = .ok (.iload 7, 2) := by decide +kernel
theorem d1_169 : decode prog_48_method_35_code 169 = .ok (.iload 5, 2) := by decide +kernel
theorem d1_171 : decode prog_48_method_35_code 171 = .ok (.if_icmp .lt 10, 3) := by decide +kernel
theorem d1_174 : decode prog_48_method_35_code 174 = .ok (.iload 7, 2) := by decide +kernel
theorem d1_176 : decode prog_48_method_35_code 176 = .ok (.iload 6, 2) := by decide +kernel
theorem d1_178 : decode prog_48_method_35_code 178 = .ok (.if_icmp .le 5, 3) := by decide +kernel
theorem d1_181 : decode prog_48_method_35_code 181 = .ok (.iconst 0, 1) := by decide +kernel
theorem d1_182 : decode prog_48_method_35_code 182 = .ok (.ireturn, 1) := by decide +kernel
theorem d1_183 : decode prog_48_method_35_code 183 = .ok (.iload_n 1, 1) := by decide +kernel
theorem d1_184 : decode prog_48_method_35_code 184 = .ok (.iconst 2, 1) := by decide +kernel
theorem d1_185 : decode prog_48_method_35_code 185 = .ok (.iadd, 1) := by decide +kernel
theorem d1_186 : decode prog_48_method_35_code 186 = .ok (.istore 8, 2) := by decide +kernel
theorem d1_188 : decode prog_48_method_35_code 188 = .ok (.iload 8, 2) := by decide +kernel
theorem d1_190 : decode prog_48_method_35_code 190 = .ok (.iload_n 1, 1) := by decide +kernel
theorem d1_191 : decode prog_48_method_35_code 191 = .ok (.iload 4, 2) := by decide +kernel
theorem d1_193 : decode prog_48_method_35_code 193 = .ok (.iadd, 1) := by decide +kernel
theorem d1_194 : decode prog_48_method_35_code 194 = .ok (.if_icmp .ge 25, 3) := by decide +kernel
theorem d1_197 : decode prog_48_method_35_code 197 = .ok (.aload_n 0, 1) := by decide +kernel
theorem d1_198 : decode prog_48_method_35_code 198 = .ok (.iload 8, 2) := by decide +kernel
theorem d1_200 : decode prog_48_method_35_code 200 = .ok (.baload, 1) := by decide +kernel
theorem d1_201 : decode prog_48_method_35_code 201 = .ok (.sipush 192, 3) := by decide +kernel
theorem d1_204 : decode prog_48_method_35_code 204 = .ok (.iand, 1) := by decide +kernel
theorem d1_205 : decode prog_48_method_35_code 205 = .ok (.sipush 128, 3) := by decide +kernel
theorem d1_208 : decode prog_48_method_35_code 208 = .ok (.if_icmp .eq 5, 3) := by decide +kernel
theorem d1_211 : decode prog_48_method_35_code 211 = .ok (.iconst 0, 1) := by decide +kernel
theorem d1_212 : decode prog_48_method_35_code 212 = .ok (.ireturn, 1) := by decide +kernel
theorem d1_213 : decode prog_48_method_35_code 213 = .ok (.iinc 8 1, 3) := by decide +kernel
theorem d1_216 : decode prog_48_method_35_code 216 = .ok (.goto (-28), 3) := by decide +kernel
theorem d1_219 : decode prog_48_method_35_code 219 = .ok (.iload 4, 2) := by decide +kernel
theorem d1_221 : decode prog_48_method_35_code 221 = .ok (.ireturn, 1) := by decide +kernel
theorem pn_1 : plainName "com/example/headwater/headwater/connectors/format/JsonRecord" = true := by first | (simp [plainName, overriddenIn]; done) | decide +kernel
theorem ef_1 (m : MethodId) (x0 : Addr) (x1 : Int32) (x2 : Int32) : entryFrame m #[(.ref x0), (.int x1), (.int x2)] 9 = mkF m 0 #[.val (.ref x0), .val (.int x1), .val (.int x2), .unset, .unset, .unset, .unset, .unset, .unset] [] := by first | (simp [entryFrame, mkF, argsToLocals, Value.category]; done) | rfl
def Q1 (Z : State) (ch : Addr) (xa : Int32) (xe : Int32) (ff : Nat → Int32) (A : Nat) (h0 : Heap) (n0 : Nat) (v : Option Value) (h : Heap) (L : List Loc) : Prop := v = some (.int (own_ln ((ff A) &&& 255) ((ff (A + 1)) &&& 255) (ff (A + 2)) (ff (A + 3)) (xe - xa))) ∧ Fr n0 L ∧ h = h0
set_option maxRecDepth 65536 in
set_option maxHeartbeats 40000000 in
theorem rm1 (l : Launch) (Z : State) (a0 : Array Value) (hw : ∀ d ∈ tables_1, d.before a0 Z = true) (ws : List Jvm.Cond) (ch : Addr) (xa : Int32) (xe : Int32) (ff : Nat → Int32) (A : Nat) (h0 : Heap) (n0 : Nat) (Z0 : n0 ≤ h0.size) (A1 : own_Ai Z h0 ch .byte 8 ff) (H1 : xa.toInt = (A : Int)) (H2 : A < 4) :
    MetFree l (⟨"com/example/headwater/headwater/connectors/format/JsonRecord", "utf8Length", "([BII)I"⟩ : MethodName) (head1 (Jvm.Cond.code (⟨"com/example/headwater/headwater/connectors/format/JsonRecord", "utf8Length", "([BII)I"⟩ : MethodName) prog_48_method_35_code 9 (some .int) :: ws) ({ frames := 0, cells := 0, slots := 0, locals := 0 } : Room)) (fun a U => a = #[(.ref ch), (.int xa), (.int xe)] ∧ Z.Warmed39 U.vm ∧ U.heap = h0) (fun _ _ _ _ _ => True) (fun _ U o U' => ∃ v L, o = .returned v ∧ Q1 Z ch xa xe ff A h0 n0 v U'.heap L ∧ FrameEnd U o U' L ({ frames := 0, cells := 0, slots := 0, locals := 0 } : Room).cells ({ frames := 0, cells := 0, slots := 0, locals := 0 } : Room).slots) := by
  refine MetFree.of_bodySF (plainFor_of_name pn_1) hisR ?_
  intro p e s m args below meth c s₁ Bd hml0 hP hK
  obtain ⟨rfl, hZ, hh⟩ := hP
  have hx := Bd.exec
  have hby := Bd.bytes
  have hlk : meth.locks = false := BodyLoose.notSynchronized Bd
  have hml : c.maxLocals = 9 := hml0
  have hown : s.vm.findClass "com/example/headwater/headwater/connectors/format/JsonRecord" = some m.cls := findClass_of_methodNamed Bd.named
  have hnm := (name_of_methodNamed Bd.named Bd.method).1
  have X0 : Stand p l e ({ frames := 0, cells := 0, slots := 0, locals := 0 } : Room) s m #[(.ref ch), (.int xa), (.int xe)] below meth c s₁ [] 0 0 := Stand.of_body Bd
  have e0 : s₁.heap = h0 := by rw [← hh, Bd.state]; rfl
  have N0 := Fr.nil n0
  show own_Go p e below (own_G s (Q1 Z ch xa xe ff A h0 n0) ({ frames := 0, cells := 0, slots := 0, locals := 0 } : Room).cells ({ frames := 0, cells := 0, slots := 0, locals := 0 } : Room).slots) (s₁.setTop (entryFrame m #[(.ref ch), (.int xa), (.int xe)] 9))
  refine own_st (fun tgt k => castTop (ef_1 m ch xa xe) k) ?_
  show own_Go p e below _ (s₁.setTop (mkF m 0 #[.val (.ref ch), .val (.int xa), .val (.int xe), .unset, .unset, .unset, .unset, .unset, .unset] []))
  have a1 : (xa + (1 : Int32)).toInt = ((A + 1 : Nat) : Int) := own_ai H1 (by omega) (by decide) (by decide)
  have a2 : (xa + (2 : Int32)).toInt = ((A + 2 : Nat) : Int) := own_ai H1 (by omega) (by decide) (by decide)
  have a3 : (xa + (3 : Int32)).toInt = ((A + 3 : Nat) : Int) := own_ai H1 (by omega) (by decide) (by decide)
  have a4 : (xa + (4 : Int32)).toInt = ((A + 4 : Nat) : Int) := own_ai H1 (by omega) (by decide) (by decide)
  have b3 : ((xa + (2 : Int32)) + (1 : Int32)).toInt = ((A + 3 : Nat) : Int) := own_ai (A := A + 2) (k := 1) a2 (by omega) (by decide) (by decide)
  have b4 : (((xa + (2 : Int32)) + (1 : Int32)) + (1 : Int32)).toInt = ((A + 4 : Nat) : Int) := own_ai (A := A + 3) (k := 1) b3 (by omega) (by decide) (by decide)
  refine own_st (V := s₁.setTop (mkF m 22 #[.val (.ref ch), .val (.int xa), .val (.int xe), .val (.int ((ff A) &&& (255 : Int32))), .unset, .val (.int (128 : Int32)), .val (.int (191 : Int32)), .unset, .unset] [(.int (194 : Int32)), (.int ((ff A) &&& (255 : Int32)))])) (fun tgt k => ?_) ?_
  · show Steps p.tables e below (s₁.setTop (mkF m 0 #[.val (.ref ch), .val (.int xa), .val (.int xe), .unset, .unset, .unset, .unset, .unset, .unset] [])) tgt
    refine XS.aloadN X0.here hx rfl (hb hby d1_0) rfl rfl ?_
    show Steps p.tables e below (s₁.setTop (mkF m 1 #[.val (.ref ch), .val (.int xa), .val (.int xe), .unset, .unset, .unset, .unset, .unset, .unset] [(.ref ch)])) tgt
    refine XS.iloadN X0.here hx rfl (hb hby d1_1) rfl ?_
    show Steps p.tables e below (s₁.setTop (mkF m 2 #[.val (.ref ch), .val (.int xa), .val (.int xe), .unset, .unset, .unset, .unset, .unset, .unset] [(.int xa), (.ref ch)])) tgt
    refine own_baload X0 hx hZ e0 A1 (j := xa) (k := A) H1 (by omega) (g := (mkF m 2 #[.val (.ref ch), .val (.int xa), .val (.int xe), .unset, .unset, .unset, .unset, .unset, .unset] [(.int xa), (.ref ch)])) rfl rfl (hb hby d1_2) ?_
    show Steps p.tables e below (s₁.setTop (mkF m 3 #[.val (.ref ch), .val (.int xa), .val (.int xe), .unset, .unset, .unset, .unset, .unset, .unset] [(.int (ff A))])) tgt
    refine XS.sipush X0.here hx rfl (hb hby d1_3) ?_
    show Steps p.tables e below (s₁.setTop (mkF m 6 #[.val (.ref ch), .val (.int xa), .val (.int xe), .unset, .unset, .unset, .unset, .unset, .unset] [(.int (255 : Int32)), (.int (ff A))])) tgt
    refine XS.iand X0.here hx rfl (hb hby d1_6) rfl ?_
    show Steps p.tables e below (s₁.setTop (mkF m 7 #[.val (.ref ch), .val (.int xa), .val (.int xe), .unset, .unset, .unset, .unset, .unset, .unset] [(.int ((ff A) &&& (255 : Int32)))])) tgt
    refine XS.istoreN X0.here hx rfl (hb hby d1_7) rfl (l' := #[.val (.ref ch), .val (.int xa), .val (.int xe), .val (.int ((ff A) &&& (255 : Int32))), .unset, .unset, .unset, .unset, .unset]) rfl ?_
    show Steps p.tables e below (s₁.setTop (mkF m 8 #[.val (.ref ch), .val (.int xa), .val (.int xe), .val (.int ((ff A) &&& (255 : Int32))), .unset, .unset, .unset, .unset, .unset] [])) tgt
    refine XS.sipush X0.here hx rfl (hb hby d1_8) ?_
    show Steps p.tables e below (s₁.setTop (mkF m 11 #[.val (.ref ch), .val (.int xa), .val (.int xe), .val (.int ((ff A) &&& (255 : Int32))), .unset, .unset, .unset, .unset, .unset] [(.int (128 : Int32))])) tgt
    refine XS.istore X0.here hx rfl (hb hby d1_11) rfl (l' := #[.val (.ref ch), .val (.int xa), .val (.int xe), .val (.int ((ff A) &&& (255 : Int32))), .unset, .val (.int (128 : Int32)), .unset, .unset, .unset]) rfl ?_
    show Steps p.tables e below (s₁.setTop (mkF m 13 #[.val (.ref ch), .val (.int xa), .val (.int xe), .val (.int ((ff A) &&& (255 : Int32))), .unset, .val (.int (128 : Int32)), .unset, .unset, .unset] [])) tgt
    refine XS.sipush X0.here hx rfl (hb hby d1_13) ?_
    show Steps p.tables e below (s₁.setTop (mkF m 16 #[.val (.ref ch), .val (.int xa), .val (.int xe), .val (.int ((ff A) &&& (255 : Int32))), .unset, .val (.int (128 : Int32)), .unset, .unset, .unset] [(.int (191 : Int32))])) tgt
    refine XS.istore X0.here hx rfl (hb hby d1_16) rfl (l' := #[.val (.ref ch), .val (.int xa), .val (.int xe), .val (.int ((ff A) &&& (255 : Int32))), .unset, .val (.int (128 : Int32)), .val (.int (191 : Int32)), .unset, .unset]) rfl ?_
    show Steps p.tables e below (s₁.setTop (mkF m 18 #[.val (.ref ch), .val (.int xa), .val (.int xe), .val (.int ((ff A) &&& (255 : Int32))), .unset, .val (.int (128 : Int32)), .val (.int (191 : Int32)), .unset, .unset] [])) tgt
    refine XS.iloadN X0.here hx rfl (hb hby d1_18) rfl ?_
    show Steps p.tables e below (s₁.setTop (mkF m 19 #[.val (.ref ch), .val (.int xa), .val (.int xe), .val (.int ((ff A) &&& (255 : Int32))), .unset, .val (.int (128 : Int32)), .val (.int (191 : Int32)), .unset, .unset] [(.int ((ff A) &&& (255 : Int32)))])) tgt
    refine XS.sipush X0.here hx rfl (hb hby d1_19) ?_
    exact k
  by_cases hc22 : ((ff A) &&& (255 : Int32)) < (194 : Int32)
  · skip
    refine own_st (V := s₁.setTop (mkF m 155 #[.val (.ref ch), .val (.int xa), .val (.int xe), .val (.int ((ff A) &&& (255 : Int32))), .val (.int (0 : Int32)), .val (.int (128 : Int32)), .val (.int (191 : Int32)), .unset, .unset] [(.int (0 : Int32))])) (fun tgt k => ?_) ?_
    · show Steps p.tables e below (s₁.setTop (mkF m 22 #[.val (.ref ch), .val (.int xa), .val (.int xe), .val (.int ((ff A) &&& (255 : Int32))), .unset, .val (.int (128 : Int32)), .val (.int (191 : Int32)), .unset, .unset] [(.int (194 : Int32)), (.int ((ff A) &&& (255 : Int32)))])) tgt
      refine XS.icmpNo X0.here hx rfl (hb hby d1_22) rfl (tlt hc22).2.1 ?_
      show Steps p.tables e below (s₁.setTop (mkF m 25 #[.val (.ref ch), .val (.int xa), .val (.int xe), .val (.int ((ff A) &&& (255 : Int32))), .unset, .val (.int (128 : Int32)), .val (.int (191 : Int32)), .unset, .unset] [])) tgt
      refine XS.iconst X0.here hx rfl (hb hby d1_25) ?_
      show Steps p.tables e below (s₁.setTop (mkF m 26 #[.val (.ref ch), .val (.int xa), .val (.int xe), .val (.int ((ff A) &&& (255 : Int32))), .unset, .val (.int (128 : Int32)), .val (.int (191 : Int32)), .unset, .unset] [(.int (0 : Int32))])) tgt
      refine XS.istore X0.here hx rfl (hb hby d1_26) rfl (l' := #[.val (.ref ch), .val (.int xa), .val (.int xe), .val (.int ((ff A) &&& (255 : Int32))), .val (.int (0 : Int32)), .val (.int (128 : Int32)), .val (.int (191 : Int32)), .unset, .unset]) rfl ?_
      show Steps p.tables e below (s₁.setTop (mkF m 28 #[.val (.ref ch), .val (.int xa), .val (.int xe), .val (.int ((ff A) &&& (255 : Int32))), .val (.int (0 : Int32)), .val (.int (128 : Int32)), .val (.int (191 : Int32)), .unset, .unset] [])) tgt
      refine XS.goto X0.here hx rfl (pc0 := 28) (pc' := 141) rfl (hb hby d1_28) (by decide) (by decide) ?_
      show Steps p.tables e below (s₁.setTop (mkF m 141 #[.val (.ref ch), .val (.int xa), .val (.int xe), .val (.int ((ff A) &&& (255 : Int32))), .val (.int (0 : Int32)), .val (.int (128 : Int32)), .val (.int (191 : Int32)), .unset, .unset] [])) tgt
      refine XS.iload X0.here hx rfl (hb hby d1_141) rfl ?_
      show Steps p.tables e below (s₁.setTop (mkF m 143 #[.val (.ref ch), .val (.int xa), .val (.int xe), .val (.int ((ff A) &&& (255 : Int32))), .val (.int (0 : Int32)), .val (.int (128 : Int32)), .val (.int (191 : Int32)), .unset, .unset] [(.int (0 : Int32))])) tgt
      refine XS.ifYes X0.here hx rfl (pc0 := 143) (pc' := 154) rfl (hb hby d1_143) rfl ((if0 _ _).trans (teq (by decide : (0 : Int32) = (0 : Int32))).1) (by decide) (by decide) ?_
      show Steps p.tables e below (s₁.setTop (mkF m 154 #[.val (.ref ch), .val (.int xa), .val (.int xe), .val (.int ((ff A) &&& (255 : Int32))), .val (.int (0 : Int32)), .val (.int (128 : Int32)), .val (.int (191 : Int32)), .unset, .unset] [])) tgt
      refine XS.iconst X0.here hx rfl (hb hby d1_154) ?_
      exact k
    refine own_retI X0 hx hlk Bd.returns (hb hby d1_155) ?_ (by decide) (by decide)
    show Q1 Z ch xa xe ff A h0 n0 (some (.int (0 : Int32))) s₁.heap _
    rw [e0]
    refine ⟨?_, N0, rfl⟩
    exact congrArg (fun q => some (Value.int q)) (by unfold own_ln; rw [if_pos hc22])
  · skip
    refine own_st (V := s₁.setTop (mkF m 35 #[.val (.ref ch), .val (.int xa), .val (.int xe), .val (.int ((ff A) &&& (255 : Int32))), .unset, .val (.int (128 : Int32)), .val (.int (191 : Int32)), .unset, .unset] [(.int (224 : Int32)), (.int ((ff A) &&& (255 : Int32)))])) (fun tgt k => ?_) ?_
    · show Steps p.tables e below (s₁.setTop (mkF m 22 #[.val (.ref ch), .val (.int xa), .val (.int xe), .val (.int ((ff A) &&& (255 : Int32))), .unset, .val (.int (128 : Int32)), .val (.int (191 : Int32)), .unset, .unset] [(.int (194 : Int32)), (.int ((ff A) &&& (255 : Int32)))])) tgt
      refine XS.icmpYes X0.here hx rfl (pc0 := 22) (pc' := 31) rfl (hb hby d1_22) rfl (flt hc22).2.1 (by decide) (by decide) ?_
      show Steps p.tables e below (s₁.setTop (mkF m 31 #[.val (.ref ch), .val (.int xa), .val (.int xe), .val (.int ((ff A) &&& (255 : Int32))), .unset, .val (.int (128 : Int32)), .val (.int (191 : Int32)), .unset, .unset] [])) tgt
      refine XS.iloadN X0.here hx rfl (hb hby d1_31) rfl ?_
      show Steps p.tables e below (s₁.setTop (mkF m 32 #[.val (.ref ch), .val (.int xa), .val (.int xe), .val (.int ((ff A) &&& (255 : Int32))), .unset, .val (.int (128 : Int32)), .val (.int (191 : Int32)), .unset, .unset] [(.int ((ff A) &&& (255 : Int32)))])) tgt
      refine XS.sipush X0.here hx rfl (hb hby d1_32) ?_
      exact k
    by_cases hc35 : ((ff A) &&& (255 : Int32)) < (224 : Int32)
    · skip
      refine own_st (V := s₁.setTop (mkF m 151 #[.val (.ref ch), .val (.int xa), .val (.int xe), .val (.int ((ff A) &&& (255 : Int32))), .val (.int (2 : Int32)), .val (.int (128 : Int32)), .val (.int (191 : Int32)), .unset, .unset] [(.int (xe - xa)), (.int (2 : Int32))])) (fun tgt k => ?_) ?_
      · show Steps p.tables e below (s₁.setTop (mkF m 35 #[.val (.ref ch), .val (.int xa), .val (.int xe), .val (.int ((ff A) &&& (255 : Int32))), .unset, .val (.int (128 : Int32)), .val (.int (191 : Int32)), .unset, .unset] [(.int (224 : Int32)), (.int ((ff A) &&& (255 : Int32)))])) tgt
        refine XS.icmpNo X0.here hx rfl (hb hby d1_35) rfl (tlt hc35).2.1 ?_
        show Steps p.tables e below (s₁.setTop (mkF m 38 #[.val (.ref ch), .val (.int xa), .val (.int xe), .val (.int ((ff A) &&& (255 : Int32))), .unset, .val (.int (128 : Int32)), .val (.int (191 : Int32)), .unset, .unset] [])) tgt
        refine XS.iconst X0.here hx rfl (hb hby d1_38) ?_
        show Steps p.tables e below (s₁.setTop (mkF m 39 #[.val (.ref ch), .val (.int xa), .val (.int xe), .val (.int ((ff A) &&& (255 : Int32))), .unset, .val (.int (128 : Int32)), .val (.int (191 : Int32)), .unset, .unset] [(.int (2 : Int32))])) tgt
        refine XS.istore X0.here hx rfl (hb hby d1_39) rfl (l' := #[.val (.ref ch), .val (.int xa), .val (.int xe), .val (.int ((ff A) &&& (255 : Int32))), .val (.int (2 : Int32)), .val (.int (128 : Int32)), .val (.int (191 : Int32)), .unset, .unset]) rfl ?_
        show Steps p.tables e below (s₁.setTop (mkF m 41 #[.val (.ref ch), .val (.int xa), .val (.int xe), .val (.int ((ff A) &&& (255 : Int32))), .val (.int (2 : Int32)), .val (.int (128 : Int32)), .val (.int (191 : Int32)), .unset, .unset] [])) tgt
        refine XS.goto X0.here hx rfl (pc0 := 41) (pc' := 141) rfl (hb hby d1_41) (by decide) (by decide) ?_
        show Steps p.tables e below (s₁.setTop (mkF m 141 #[.val (.ref ch), .val (.int xa), .val (.int xe), .val (.int ((ff A) &&& (255 : Int32))), .val (.int (2 : Int32)), .val (.int (128 : Int32)), .val (.int (191 : Int32)), .unset, .unset] [])) tgt
        refine XS.iload X0.here hx rfl (hb hby d1_141) rfl ?_
        show Steps p.tables e below (s₁.setTop (mkF m 143 #[.val (.ref ch), .val (.int xa), .val (.int xe), .val (.int ((ff A) &&& (255 : Int32))), .val (.int (2 : Int32)), .val (.int (128 : Int32)), .val (.int (191 : Int32)), .unset, .unset] [(.int (2 : Int32))])) tgt
        refine XS.ifNo X0.here hx rfl (hb hby d1_143) rfl ((if0 _ _).trans (feq (by decide : ¬ ((2 : Int32) = (0 : Int32)))).1) ?_
        show Steps p.tables e below (s₁.setTop (mkF m 146 #[.val (.ref ch), .val (.int xa), .val (.int xe), .val (.int ((ff A) &&& (255 : Int32))), .val (.int (2 : Int32)), .val (.int (128 : Int32)), .val (.int (191 : Int32)), .unset, .unset] [])) tgt
        refine XS.iload X0.here hx rfl (hb hby d1_146) rfl ?_
        show Steps p.tables e below (s₁.setTop (mkF m 148 #[.val (.ref ch), .val (.int xa), .val (.int xe), .val (.int ((ff A) &&& (255 : Int32))), .val (.int (2 : Int32)), .val (.int (128 : Int32)), .val (.int (191 : Int32)), .unset, .unset] [(.int (2 : Int32))])) tgt
        refine XS.iloadN X0.here hx rfl (hb hby d1_148) rfl ?_
        show Steps p.tables e below (s₁.setTop (mkF m 149 #[.val (.ref ch), .val (.int xa), .val (.int xe), .val (.int ((ff A) &&& (255 : Int32))), .val (.int (2 : Int32)), .val (.int (128 : Int32)), .val (.int (191 : Int32)), .unset, .unset] [(.int xe), (.int (2 : Int32))])) tgt
        refine XS.iloadN X0.here hx rfl (hb hby d1_149) rfl ?_
        show Steps p.tables e below (s₁.setTop (mkF m 150 #[.val (.ref ch), .val (.int xa), .val (.int xe), .val (.int ((ff A) &&& (255 : Int32))), .val (.int (2 : Int32)), .val (.int (128 : Int32)), .val (.int (191 : Int32)), .unset, .unset] [(.int xa), (.int xe), (.int (2 : Int32))])) tgt
        refine XS.isub X0.here hx rfl (hb hby d1_150) rfl ?_
        exact k
      by_cases hc151 : (xe - xa) < (2 : Int32)
      · skip
        refine own_st (V := s₁.setTop (mkF m 155 #[.val (.ref ch), .val (.int xa), .val (.int xe), .val (.int ((ff A) &&& (255 : Int32))), .val (.int (2 : Int32)), .val (.int (128 : Int32)), .val (.int (191 : Int32)), .unset, .unset] [(.int (0 : Int32))])) (fun tgt k => ?_) ?_
        · show Steps p.tables e below (s₁.setTop (mkF m 151 #[.val (.ref ch), .val (.int xa), .val (.int xe), .val (.int ((ff A) &&& (255 : Int32))), .val (.int (2 : Int32)), .val (.int (128 : Int32)), .val (.int (191 : Int32)), .unset, .unset] [(.int (xe - xa)), (.int (2 : Int32))])) tgt
          refine XS.icmpNo X0.here hx rfl (hb hby d1_151) rfl (tlt hc151).2.2.2 ?_
          show Steps p.tables e below (s₁.setTop (mkF m 154 #[.val (.ref ch), .val (.int xa), .val (.int xe), .val (.int ((ff A) &&& (255 : Int32))), .val (.int (2 : Int32)), .val (.int (128 : Int32)), .val (.int (191 : Int32)), .unset, .unset] [])) tgt
          refine XS.iconst X0.here hx rfl (hb hby d1_154) ?_
          exact k
        refine own_retI X0 hx hlk Bd.returns (hb hby d1_155) ?_ (by decide) (by decide)
        show Q1 Z ch xa xe ff A h0 n0 (some (.int (0 : Int32))) s₁.heap _
        rw [e0]
        refine ⟨?_, N0, rfl⟩
        exact congrArg (fun q => some (Value.int q)) (by unfold own_ln; rw [if_neg hc22, if_pos hc35, if_pos hc151])
      · skip
        refine own_st (V := s₁.setTop (mkF m 171 #[.val (.ref ch), .val (.int xa), .val (.int xe), .val (.int ((ff A) &&& (255 : Int32))), .val (.int (2 : Int32)), .val (.int (128 : Int32)), .val (.int (191 : Int32)), .val (.int ((ff (A + 1)) &&& (255 : Int32))), .unset] [(.int (128 : Int32)), (.int ((ff (A + 1)) &&& (255 : Int32)))])) (fun tgt k => ?_) ?_
        · show Steps p.tables e below (s₁.setTop (mkF m 151 #[.val (.ref ch), .val (.int xa), .val (.int xe), .val (.int ((ff A) &&& (255 : Int32))), .val (.int (2 : Int32)), .val (.int (128 : Int32)), .val (.int (191 : Int32)), .unset, .unset] [(.int (xe - xa)), (.int (2 : Int32))])) tgt
          refine XS.icmpYes X0.here hx rfl (pc0 := 151) (pc' := 156) rfl (hb hby d1_151) rfl (flt hc151).2.2.2 (by decide) (by decide) ?_
          show Steps p.tables e below (s₁.setTop (mkF m 156 #[.val (.ref ch), .val (.int xa), .val (.int xe), .val (.int ((ff A) &&& (255 : Int32))), .val (.int (2 : Int32)), .val (.int (128 : Int32)), .val (.int (191 : Int32)), .unset, .unset] [])) tgt
          refine XS.aloadN X0.here hx rfl (hb hby d1_156) rfl rfl ?_
          show Steps p.tables e below (s₁.setTop (mkF m 157 #[.val (.ref ch), .val (.int xa), .val (.int xe), .val (.int ((ff A) &&& (255 : Int32))), .val (.int (2 : Int32)), .val (.int (128 : Int32)), .val (.int (191 : Int32)), .unset, .unset] [(.ref ch)])) tgt
          refine XS.iloadN X0.here hx rfl (hb hby d1_157) rfl ?_
          show Steps p.tables e below (s₁.setTop (mkF m 158 #[.val (.ref ch), .val (.int xa), .val (.int xe), .val (.int ((ff A) &&& (255 : Int32))), .val (.int (2 : Int32)), .val (.int (128 : Int32)), .val (.int (191 : Int32)), .unset, .unset] [(.int xa), (.ref ch)])) tgt
          refine XS.iconst X0.here hx rfl (hb hby d1_158) ?_
          show Steps p.tables e below (s₁.setTop (mkF m 159 #[.val (.ref ch), .val (.int xa), .val (.int xe), .val (.int ((ff A) &&& (255 : Int32))), .val (.int (2 : Int32)), .val (.int (128 : Int32)), .val (.int (191 : Int32)), .unset, .unset] [(.int (1 : Int32)), (.int xa), (.ref ch)])) tgt
          refine XS.iadd X0.here hx rfl (hb hby d1_159) rfl ?_
          show Steps p.tables e below (s₁.setTop (mkF m 160 #[.val (.ref ch), .val (.int xa), .val (.int xe), .val (.int ((ff A) &&& (255 : Int32))), .val (.int (2 : Int32)), .val (.int (128 : Int32)), .val (.int (191 : Int32)), .unset, .unset] [(.int (xa + (1 : Int32))), (.ref ch)])) tgt
          refine own_baload X0 hx hZ e0 A1 (j := (xa + (1 : Int32))) (k := (A + 1)) a1 (by omega) (g := (mkF m 160 #[.val (.ref ch), .val (.int xa), .val (.int xe), .val (.int ((ff A) &&& (255 : Int32))), .val (.int (2 : Int32)), .val (.int (128 : Int32)), .val (.int (191 : Int32)), .unset, .unset] [(.int (xa + (1 : Int32))), (.ref ch)])) rfl rfl (hb hby d1_160) ?_
          show Steps p.tables e below (s₁.setTop (mkF m 161 #[.val (.ref ch), .val (.int xa), .val (.int xe), .val (.int ((ff A) &&& (255 : Int32))), .val (.int (2 : Int32)), .val (.int (128 : Int32)), .val (.int (191 : Int32)), .unset, .unset] [(.int (ff (A + 1)))])) tgt
          refine XS.sipush X0.here hx rfl (hb hby d1_161) ?_
          show Steps p.tables e below (s₁.setTop (mkF m 164 #[.val (.ref ch), .val (.int xa), .val (.int xe), .val (.int ((ff A) &&& (255 : Int32))), .val (.int (2 : Int32)), .val (.int (128 : Int32)), .val (.int (191 : Int32)), .unset, .unset] [(.int (255 : Int32)), (.int (ff (A + 1)))])) tgt
          refine XS.iand X0.here hx rfl (hb hby d1_164) rfl ?_
          show Steps p.tables e below (s₁.setTop (mkF m 165 #[.val (.ref ch), .val (.int xa), .val (.int xe), .val (.int ((ff A) &&& (255 : Int32))), .val (.int (2 : Int32)), .val (.int (128 : Int32)), .val (.int (191 : Int32)), .unset, .unset] [(.int ((ff (A + 1)) &&& (255 : Int32)))])) tgt
          refine XS.istore X0.here hx rfl (hb hby d1_165) rfl (l' := #[.val (.ref ch), .val (.int xa), .val (.int xe), .val (.int ((ff A) &&& (255 : Int32))), .val (.int (2 : Int32)), .val (.int (128 : Int32)), .val (.int (191 : Int32)), .val (.int ((ff (A + 1)) &&& (255 : Int32))), .unset]) rfl ?_
          show Steps p.tables e below (s₁.setTop (mkF m 167 #[.val (.ref ch), .val (.int xa), .val (.int xe), .val (.int ((ff A) &&& (255 : Int32))), .val (.int (2 : Int32)), .val (.int (128 : Int32)), .val (.int (191 : Int32)), .val (.int ((ff (A + 1)) &&& (255 : Int32))), .unset] [])) tgt
          refine XS.iload X0.here hx rfl (hb hby d1_167) rfl ?_
          show Steps p.tables e below (s₁.setTop (mkF m 169 #[.val (.ref ch), .val (.int xa), .val (.int xe), .val (.int ((ff A) &&& (255 : Int32))), .val (.int (2 : Int32)), .val (.int (128 : Int32)), .val (.int (191 : Int32)), .val (.int ((ff (A + 1)) &&& (255 : Int32))), .unset] [(.int ((ff (A + 1)) &&& (255 : Int32)))])) tgt
          refine XS.iload X0.here hx rfl (hb hby d1_169) rfl ?_
          exact k
        by_cases hc171 : ((ff (A + 1)) &&& (255 : Int32)) < (128 : Int32)
        · skip
          refine own_st (V := s₁.setTop (mkF m 182 #[.val (.ref ch), .val (.int xa), .val (.int xe), .val (.int ((ff A) &&& (255 : Int32))), .val (.int (2 : Int32)), .val (.int (128 : Int32)), .val (.int (191 : Int32)), .val (.int ((ff (A + 1)) &&& (255 : Int32))), .unset] [(.int (0 : Int32))])) (fun tgt k => ?_) ?_
          · show Steps p.tables e below (s₁.setTop (mkF m 171 #[.val (.ref ch), .val (.int xa), .val (.int xe), .val (.int ((ff A) &&& (255 : Int32))), .val (.int (2 : Int32)), .val (.int (128 : Int32)), .val (.int (191 : Int32)), .val (.int ((ff (A + 1)) &&& (255 : Int32))), .unset] [(.int (128 : Int32)), (.int ((ff (A + 1)) &&& (255 : Int32)))])) tgt
            refine XS.icmpYes X0.here hx rfl (pc0 := 171) (pc' := 181) rfl (hb hby d1_171) rfl (tlt hc171).1 (by decide) (by decide) ?_
            show Steps p.tables e below (s₁.setTop (mkF m 181 #[.val (.ref ch), .val (.int xa), .val (.int xe), .val (.int ((ff A) &&& (255 : Int32))), .val (.int (2 : Int32)), .val (.int (128 : Int32)), .val (.int (191 : Int32)), .val (.int ((ff (A + 1)) &&& (255 : Int32))), .unset] [])) tgt
            refine XS.iconst X0.here hx rfl (hb hby d1_181) ?_
            exact k
          refine own_retI X0 hx hlk Bd.returns (hb hby d1_182) ?_ (by decide) (by decide)
          show Q1 Z ch xa xe ff A h0 n0 (some (.int (0 : Int32))) s₁.heap _
          rw [e0]
          refine ⟨?_, N0, rfl⟩
          exact congrArg (fun q => some (Value.int q)) (by unfold own_ln; rw [if_neg hc22, if_pos hc35, if_neg hc151, if_pos hc171])
        · skip
          refine own_st (V := s₁.setTop (mkF m 178 #[.val (.ref ch), .val (.int xa), .val (.int xe), .val (.int ((ff A) &&& (255 : Int32))), .val (.int (2 : Int32)), .val (.int (128 : Int32)), .val (.int (191 : Int32)), .val (.int ((ff (A + 1)) &&& (255 : Int32))), .unset] [(.int (191 : Int32)), (.int ((ff (A + 1)) &&& (255 : Int32)))])) (fun tgt k => ?_) ?_
          · show Steps p.tables e below (s₁.setTop (mkF m 171 #[.val (.ref ch), .val (.int xa), .val (.int xe), .val (.int ((ff A) &&& (255 : Int32))), .val (.int (2 : Int32)), .val (.int (128 : Int32)), .val (.int (191 : Int32)), .val (.int ((ff (A + 1)) &&& (255 : Int32))), .unset] [(.int (128 : Int32)), (.int ((ff (A + 1)) &&& (255 : Int32)))])) tgt
            refine XS.icmpNo X0.here hx rfl (hb hby d1_171) rfl (flt hc171).1 ?_
            show Steps p.tables e below (s₁.setTop (mkF m 174 #[.val (.ref ch), .val (.int xa), .val (.int xe), .val (.int ((ff A) &&& (255 : Int32))), .val (.int (2 : Int32)), .val (.int (128 : Int32)), .val (.int (191 : Int32)), .val (.int ((ff (A + 1)) &&& (255 : Int32))), .unset] [])) tgt
            refine XS.iload X0.here hx rfl (hb hby d1_174) rfl ?_
            show Steps p.tables e below (s₁.setTop (mkF m 176 #[.val (.ref ch), .val (.int xa), .val (.int xe), .val (.int ((ff A) &&& (255 : Int32))), .val (.int (2 : Int32)), .val (.int (128 : Int32)), .val (.int (191 : Int32)), .val (.int ((ff (A + 1)) &&& (255 : Int32))), .unset] [(.int ((ff (A + 1)) &&& (255 : Int32)))])) tgt
            refine XS.iload X0.here hx rfl (hb hby d1_176) rfl ?_
            exact k
          by_cases hc178 : (191 : Int32) < ((ff (A + 1)) &&& (255 : Int32))
          · skip
            refine own_st (V := s₁.setTop (mkF m 182 #[.val (.ref ch), .val (.int xa), .val (.int xe), .val (.int ((ff A) &&& (255 : Int32))), .val (.int (2 : Int32)), .val (.int (128 : Int32)), .val (.int (191 : Int32)), .val (.int ((ff (A + 1)) &&& (255 : Int32))), .unset] [(.int (0 : Int32))])) (fun tgt k => ?_) ?_
            · show Steps p.tables e below (s₁.setTop (mkF m 178 #[.val (.ref ch), .val (.int xa), .val (.int xe), .val (.int ((ff A) &&& (255 : Int32))), .val (.int (2 : Int32)), .val (.int (128 : Int32)), .val (.int (191 : Int32)), .val (.int ((ff (A + 1)) &&& (255 : Int32))), .unset] [(.int (191 : Int32)), (.int ((ff (A + 1)) &&& (255 : Int32)))])) tgt
              refine XS.icmpNo X0.here hx rfl (hb hby d1_178) rfl (tlt hc178).2.2.2 ?_
              show Steps p.tables e below (s₁.setTop (mkF m 181 #[.val (.ref ch), .val (.int xa), .val (.int xe), .val (.int ((ff A) &&& (255 : Int32))), .val (.int (2 : Int32)), .val (.int (128 : Int32)), .val (.int (191 : Int32)), .val (.int ((ff (A + 1)) &&& (255 : Int32))), .unset] [])) tgt
              refine XS.iconst X0.here hx rfl (hb hby d1_181) ?_
              exact k
            refine own_retI X0 hx hlk Bd.returns (hb hby d1_182) ?_ (by decide) (by decide)
            show Q1 Z ch xa xe ff A h0 n0 (some (.int (0 : Int32))) s₁.heap _
            rw [e0]
            refine ⟨?_, N0, rfl⟩
            exact congrArg (fun q => some (Value.int q)) (by unfold own_ln; rw [if_neg hc22, if_pos hc35, if_neg hc151, if_neg hc171, if_pos hc178])
          · skip
            refine own_st (V := s₁.setTop (mkF m 221 #[.val (.ref ch), .val (.int xa), .val (.int xe), .val (.int ((ff A) &&& (255 : Int32))), .val (.int (2 : Int32)), .val (.int (128 : Int32)), .val (.int (191 : Int32)), .val (.int ((ff (A + 1)) &&& (255 : Int32))), .val (.int (xa + (2 : Int32)))] [(.int (2 : Int32))])) (fun tgt k => ?_) ?_
            · show Steps p.tables e below (s₁.setTop (mkF m 178 #[.val (.ref ch), .val (.int xa), .val (.int xe), .val (.int ((ff A) &&& (255 : Int32))), .val (.int (2 : Int32)), .val (.int (128 : Int32)), .val (.int (191 : Int32)), .val (.int ((ff (A + 1)) &&& (255 : Int32))), .unset] [(.int (191 : Int32)), (.int ((ff (A + 1)) &&& (255 : Int32)))])) tgt
              refine XS.icmpYes X0.here hx rfl (pc0 := 178) (pc' := 183) rfl (hb hby d1_178) rfl (flt hc178).2.2.2 (by decide) (by decide) ?_
              show Steps p.tables e below (s₁.setTop (mkF m 183 #[.val (.ref ch), .val (.int xa), .val (.int xe), .val (.int ((ff A) &&& (255 : Int32))), .val (.int (2 : Int32)), .val (.int (128 : Int32)), .val (.int (191 : Int32)), .val (.int ((ff (A + 1)) &&& (255 : Int32))), .unset] [])) tgt
              refine XS.iloadN X0.here hx rfl (hb hby d1_183) rfl ?_
              show Steps p.tables e below (s₁.setTop (mkF m 184 #[.val (.ref ch), .val (.int xa), .val (.int xe), .val (.int ((ff A) &&& (255 : Int32))), .val (.int (2 : Int32)), .val (.int (128 : Int32)), .val (.int (191 : Int32)), .val (.int ((ff (A + 1)) &&& (255 : Int32))), .unset] [(.int xa)])) tgt
              refine XS.iconst X0.here hx rfl (hb hby d1_184) ?_
              show Steps p.tables e below (s₁.setTop (mkF m 185 #[.val (.ref ch), .val (.int xa), .val (.int xe), .val (.int ((ff A) &&& (255 : Int32))), .val (.int (2 : Int32)), .val (.int (128 : Int32)), .val (.int (191 : Int32)), .val (.int ((ff (A + 1)) &&& (255 : Int32))), .unset] [(.int (2 : Int32)), (.int xa)])) tgt
              refine XS.iadd X0.here hx rfl (hb hby d1_185) rfl ?_
              show Steps p.tables e below (s₁.setTop (mkF m 186 #[.val (.ref ch), .val (.int xa), .val (.int xe), .val (.int ((ff A) &&& (255 : Int32))), .val (.int (2 : Int32)), .val (.int (128 : Int32)), .val (.int (191 : Int32)), .val (.int ((ff (A + 1)) &&& (255 : Int32))), .unset] [(.int (xa + (2 : Int32)))])) tgt
              refine XS.istore X0.here hx rfl (hb hby d1_186) rfl (l' := #[.val (.ref ch), .val (.int xa), .val (.int xe), .val (.int ((ff A) &&& (255 : Int32))), .val (.int (2 : Int32)), .val (.int (128 : Int32)), .val (.int (191 : Int32)), .val (.int ((ff (A + 1)) &&& (255 : Int32))), .val (.int (xa + (2 : Int32)))]) rfl ?_
              show Steps p.tables e below (s₁.setTop (mkF m 188 #[.val (.ref ch), .val (.int xa), .val (.int xe), .val (.int ((ff A) &&& (255 : Int32))), .val (.int (2 : Int32)), .val (.int (128 : Int32)), .val (.int (191 : Int32)), .val (.int ((ff (A + 1)) &&& (255 : Int32))), .val (.int (xa + (2 : Int32)))] [])) tgt
              refine XS.iload X0.here hx rfl (hb hby d1_188) rfl ?_
              show Steps p.tables e below (s₁.setTop (mkF m 190 #[.val (.ref ch), .val (.int xa), .val (.int xe), .val (.int ((ff A) &&& (255 : Int32))), .val (.int (2 : Int32)), .val (.int (128 : Int32)), .val (.int (191 : Int32)), .val (.int ((ff (A + 1)) &&& (255 : Int32))), .val (.int (xa + (2 : Int32)))] [(.int (xa + (2 : Int32)))])) tgt
              refine XS.iloadN X0.here hx rfl (hb hby d1_190) rfl ?_
              show Steps p.tables e below (s₁.setTop (mkF m 191 #[.val (.ref ch), .val (.int xa), .val (.int xe), .val (.int ((ff A) &&& (255 : Int32))), .val (.int (2 : Int32)), .val (.int (128 : Int32)), .val (.int (191 : Int32)), .val (.int ((ff (A + 1)) &&& (255 : Int32))), .val (.int (xa + (2 : Int32)))] [(.int xa), (.int (xa + (2 : Int32)))])) tgt
              refine XS.iload X0.here hx rfl (hb hby d1_191) rfl ?_
              show Steps p.tables e below (s₁.setTop (mkF m 193 #[.val (.ref ch), .val (.int xa), .val (.int xe), .val (.int ((ff A) &&& (255 : Int32))), .val (.int (2 : Int32)), .val (.int (128 : Int32)), .val (.int (191 : Int32)), .val (.int ((ff (A + 1)) &&& (255 : Int32))), .val (.int (xa + (2 : Int32)))] [(.int (2 : Int32)), (.int xa), (.int (xa + (2 : Int32)))])) tgt
              refine XS.iadd X0.here hx rfl (hb hby d1_193) rfl ?_
              show Steps p.tables e below (s₁.setTop (mkF m 194 #[.val (.ref ch), .val (.int xa), .val (.int xe), .val (.int ((ff A) &&& (255 : Int32))), .val (.int (2 : Int32)), .val (.int (128 : Int32)), .val (.int (191 : Int32)), .val (.int ((ff (A + 1)) &&& (255 : Int32))), .val (.int (xa + (2 : Int32)))] [(.int (xa + (2 : Int32))), (.int (xa + (2 : Int32)))])) tgt
              refine XS.icmpYes X0.here hx rfl (pc0 := 194) (pc' := 219) rfl (hb hby d1_194) rfl (flt (by rw [own_ilt]; omega)).2.1 (by decide) (by decide) ?_
              show Steps p.tables e below (s₁.setTop (mkF m 219 #[.val (.ref ch), .val (.int xa), .val (.int xe), .val (.int ((ff A) &&& (255 : Int32))), .val (.int (2 : Int32)), .val (.int (128 : Int32)), .val (.int (191 : Int32)), .val (.int ((ff (A + 1)) &&& (255 : Int32))), .val (.int (xa + (2 : Int32)))] [])) tgt
              refine XS.iload X0.here hx rfl (hb hby d1_219) rfl ?_
              exact k
            refine own_retI X0 hx hlk Bd.returns (hb hby d1_221) ?_ (by decide) (by decide)
            show Q1 Z ch xa xe ff A h0 n0 (some (.int (2 : Int32))) s₁.heap _
            rw [e0]
            refine ⟨?_, N0, rfl⟩
            exact congrArg (fun q => some (Value.int q)) (by unfold own_ln; rw [if_neg hc22, if_pos hc35, if_neg hc151, if_neg hc171, if_neg hc178])
    · skip
      refine own_st (V := s₁.setTop (mkF m 48 #[.val (.ref ch), .val (.int xa), .val (.int xe), .val (.int ((ff A) &&& (255 : Int32))), .unset, .val (.int (128 : Int32)), .val (.int (191 : Int32)), .unset, .unset] [(.int (240 : Int32)), (.int ((ff A) &&& (255 : Int32)))])) (fun tgt k => ?_) ?_
      · show Steps p.tables e below (s₁.setTop (mkF m 35 #[.val (.ref ch), .val (.int xa), .val (.int xe), .val (.int ((ff A) &&& (255 : Int32))), .unset, .val (.int (128 : Int32)), .val (.int (191 : Int32)), .unset, .unset] [(.int (224 : Int32)), (.int ((ff A) &&& (255 : Int32)))])) tgt
        refine XS.icmpYes X0.here hx rfl (pc0 := 35) (pc' := 44) rfl (hb hby d1_35) rfl (flt hc35).2.1 (by decide) (by decide) ?_
        show Steps p.tables e below (s₁.setTop (mkF m 44 #[.val (.ref ch), .val (.int xa), .val (.int xe), .val (.int ((ff A) &&& (255 : Int32))), .unset, .val (.int (128 : Int32)), .val (.int (191 : Int32)), .unset, .unset] [])) tgt
        refine XS.iloadN X0.here hx rfl (hb hby d1_44) rfl ?_
        show Steps p.tables e below (s₁.setTop (mkF m 45 #[.val (.ref ch), .val (.int xa), .val (.int xe), .val (.int ((ff A) &&& (255 : Int32))), .unset, .val (.int (128 : Int32)), .val (.int (191 : Int32)), .unset, .unset] [(.int ((ff A) &&& (255 : Int32)))])) tgt
        refine XS.sipush X0.here hx rfl (hb hby d1_45) ?_
        exact k
      by_cases hc48 : ((ff A) &&& (255 : Int32)) < (240 : Int32)
      · skip
        refine own_st (V := s₁.setTop (mkF m 58 #[.val (.ref ch), .val (.int xa), .val (.int xe), .val (.int ((ff A) &&& (255 : Int32))), .val (.int (3 : Int32)), .val (.int (128 : Int32)), .val (.int (191 : Int32)), .unset, .unset] [(.int (224 : Int32)), (.int ((ff A) &&& (255 : Int32)))])) (fun tgt k => ?_) ?_
        · show Steps p.tables e below (s₁.setTop (mkF m 48 #[.val (.ref ch), .val (.int xa), .val (.int xe), .val (.int ((ff A) &&& (255 : Int32))), .unset, .val (.int (128 : Int32)), .val (.int (191 : Int32)), .unset, .unset] [(.int (240 : Int32)), (.int ((ff A) &&& (255 : Int32)))])) tgt
          refine XS.icmpNo X0.here hx rfl (hb hby d1_48) rfl (tlt hc48).2.1 ?_
          show Steps p.tables e below (s₁.setTop (mkF m 51 #[.val (.ref ch), .val (.int xa), .val (.int xe), .val (.int ((ff A) &&& (255 : Int32))), .unset, .val (.int (128 : Int32)), .val (.int (191 : Int32)), .unset, .unset] [])) tgt
          refine XS.iconst X0.here hx rfl (hb hby d1_51) ?_
          show Steps p.tables e below (s₁.setTop (mkF m 52 #[.val (.ref ch), .val (.int xa), .val (.int xe), .val (.int ((ff A) &&& (255 : Int32))), .unset, .val (.int (128 : Int32)), .val (.int (191 : Int32)), .unset, .unset] [(.int (3 : Int32))])) tgt
          refine XS.istore X0.here hx rfl (hb hby d1_52) rfl (l' := #[.val (.ref ch), .val (.int xa), .val (.int xe), .val (.int ((ff A) &&& (255 : Int32))), .val (.int (3 : Int32)), .val (.int (128 : Int32)), .val (.int (191 : Int32)), .unset, .unset]) rfl ?_
          show Steps p.tables e below (s₁.setTop (mkF m 54 #[.val (.ref ch), .val (.int xa), .val (.int xe), .val (.int ((ff A) &&& (255 : Int32))), .val (.int (3 : Int32)), .val (.int (128 : Int32)), .val (.int (191 : Int32)), .unset, .unset] [])) tgt
          refine XS.iloadN X0.here hx rfl (hb hby d1_54) rfl ?_
          show Steps p.tables e below (s₁.setTop (mkF m 55 #[.val (.ref ch), .val (.int xa), .val (.int xe), .val (.int ((ff A) &&& (255 : Int32))), .val (.int (3 : Int32)), .val (.int (128 : Int32)), .val (.int (191 : Int32)), .unset, .unset] [(.int ((ff A) &&& (255 : Int32)))])) tgt
          refine XS.sipush X0.here hx rfl (hb hby d1_55) ?_
          exact k
        obtain ⟨lo, hlo⟩ : ∃ z : Int32, z = (if ((ff A) &&& (255 : Int32)) = (224 : Int32) then (160 : Int32) else (128 : Int32)) := ⟨_, rfl⟩
        refine own_st (V := s₁.setTop (mkF m 69 #[.val (.ref ch), .val (.int xa), .val (.int xe), .val (.int ((ff A) &&& (255 : Int32))), .val (.int (3 : Int32)), .val (.int (128 : Int32)), .val (.int (191 : Int32)), .unset, .unset] [(.int lo)])) (fun tgt k => ?_) ?_
        · skip
          by_cases hc58_2 : ((ff A) &&& (255 : Int32)) = (224 : Int32)
          · skip
            rw [if_pos hc58_2] at hlo
            show Steps p.tables e below (s₁.setTop (mkF m 58 #[.val (.ref ch), .val (.int xa), .val (.int xe), .val (.int ((ff A) &&& (255 : Int32))), .val (.int (3 : Int32)), .val (.int (128 : Int32)), .val (.int (191 : Int32)), .unset, .unset] [(.int (224 : Int32)), (.int ((ff A) &&& (255 : Int32)))])) tgt
            refine XS.icmpNo X0.here hx rfl (hb hby d1_58) rfl (teq hc58_2).2 ?_
            show Steps p.tables e below (s₁.setTop (mkF m 61 #[.val (.ref ch), .val (.int xa), .val (.int xe), .val (.int ((ff A) &&& (255 : Int32))), .val (.int (3 : Int32)), .val (.int (128 : Int32)), .val (.int (191 : Int32)), .unset, .unset] [])) tgt
            refine XS.sipush X0.here hx rfl (hb hby d1_61) ?_
            show Steps p.tables e below (s₁.setTop (mkF m 64 #[.val (.ref ch), .val (.int xa), .val (.int xe), .val (.int ((ff A) &&& (255 : Int32))), .val (.int (3 : Int32)), .val (.int (128 : Int32)), .val (.int (191 : Int32)), .unset, .unset] [(.int (160 : Int32))])) tgt
            refine XS.goto X0.here hx rfl (pc0 := 64) (pc' := 69) rfl (hb hby d1_64) (by decide) (by decide) ?_
            rw [hlo] at k
            exact k
          · skip
            rw [if_neg hc58_2] at hlo
            show Steps p.tables e below (s₁.setTop (mkF m 58 #[.val (.ref ch), .val (.int xa), .val (.int xe), .val (.int ((ff A) &&& (255 : Int32))), .val (.int (3 : Int32)), .val (.int (128 : Int32)), .val (.int (191 : Int32)), .unset, .unset] [(.int (224 : Int32)), (.int ((ff A) &&& (255 : Int32)))])) tgt
            refine XS.icmpYes X0.here hx rfl (pc0 := 58) (pc' := 67) rfl (hb hby d1_58) rfl (feq hc58_2).2 (by decide) (by decide) ?_
            show Steps p.tables e below (s₁.setTop (mkF m 67 #[.val (.ref ch), .val (.int xa), .val (.int xe), .val (.int ((ff A) &&& (255 : Int32))), .val (.int (3 : Int32)), .val (.int (128 : Int32)), .val (.int (191 : Int32)), .unset, .unset] [])) tgt
            refine XS.iload X0.here hx rfl (hb hby d1_67) rfl ?_
            rw [hlo] at k
            exact k
        refine own_st (V := s₁.setTop (mkF m 75 #[.val (.ref ch), .val (.int xa), .val (.int xe), .val (.int ((ff A) &&& (255 : Int32))), .val (.int (3 : Int32)), .val (.int lo), .val (.int (191 : Int32)), .unset, .unset] [(.int (237 : Int32)), (.int ((ff A) &&& (255 : Int32)))])) (fun tgt k => ?_) ?_
        · show Steps p.tables e below (s₁.setTop (mkF m 69 #[.val (.ref ch), .val (.int xa), .val (.int xe), .val (.int ((ff A) &&& (255 : Int32))), .val (.int (3 : Int32)), .val (.int (128 : Int32)), .val (.int (191 : Int32)), .unset, .unset] [(.int lo)])) tgt
          refine XS.istore X0.here hx rfl (hb hby d1_69) rfl (l' := #[.val (.ref ch), .val (.int xa), .val (.int xe), .val (.int ((ff A) &&& (255 : Int32))), .val (.int (3 : Int32)), .val (.int lo), .val (.int (191 : Int32)), .unset, .unset]) rfl ?_
          show Steps p.tables e below (s₁.setTop (mkF m 71 #[.val (.ref ch), .val (.int xa), .val (.int xe), .val (.int ((ff A) &&& (255 : Int32))), .val (.int (3 : Int32)), .val (.int lo), .val (.int (191 : Int32)), .unset, .unset] [])) tgt
          refine XS.iloadN X0.here hx rfl (hb hby d1_71) rfl ?_
          show Steps p.tables e below (s₁.setTop (mkF m 72 #[.val (.ref ch), .val (.int xa), .val (.int xe), .val (.int ((ff A) &&& (255 : Int32))), .val (.int (3 : Int32)), .val (.int lo), .val (.int (191 : Int32)), .unset, .unset] [(.int ((ff A) &&& (255 : Int32)))])) tgt
          refine XS.sipush X0.here hx rfl (hb hby d1_72) ?_
          exact k
        obtain ⟨hi, hhi⟩ : ∃ z : Int32, z = (if ((ff A) &&& (255 : Int32)) = (237 : Int32) then (159 : Int32) else (191 : Int32)) := ⟨_, rfl⟩
        refine own_st (V := s₁.setTop (mkF m 86 #[.val (.ref ch), .val (.int xa), .val (.int xe), .val (.int ((ff A) &&& (255 : Int32))), .val (.int (3 : Int32)), .val (.int lo), .val (.int (191 : Int32)), .unset, .unset] [(.int hi)])) (fun tgt k => ?_) ?_
        · skip
          by_cases hc75_2 : ((ff A) &&& (255 : Int32)) = (237 : Int32)
          · skip
            rw [if_pos hc75_2] at hhi
            show Steps p.tables e below (s₁.setTop (mkF m 75 #[.val (.ref ch), .val (.int xa), .val (.int xe), .val (.int ((ff A) &&& (255 : Int32))), .val (.int (3 : Int32)), .val (.int lo), .val (.int (191 : Int32)), .unset, .unset] [(.int (237 : Int32)), (.int ((ff A) &&& (255 : Int32)))])) tgt
            refine XS.icmpNo X0.here hx rfl (hb hby d1_75) rfl (teq hc75_2).2 ?_
            show Steps p.tables e below (s₁.setTop (mkF m 78 #[.val (.ref ch), .val (.int xa), .val (.int xe), .val (.int ((ff A) &&& (255 : Int32))), .val (.int (3 : Int32)), .val (.int lo), .val (.int (191 : Int32)), .unset, .unset] [])) tgt
            refine XS.sipush X0.here hx rfl (hb hby d1_78) ?_
            show Steps p.tables e below (s₁.setTop (mkF m 81 #[.val (.ref ch), .val (.int xa), .val (.int xe), .val (.int ((ff A) &&& (255 : Int32))), .val (.int (3 : Int32)), .val (.int lo), .val (.int (191 : Int32)), .unset, .unset] [(.int (159 : Int32))])) tgt
            refine XS.goto X0.here hx rfl (pc0 := 81) (pc' := 86) rfl (hb hby d1_81) (by decide) (by decide) ?_
            rw [hhi] at k
            exact k
          · skip
            rw [if_neg hc75_2] at hhi
            show Steps p.tables e below (s₁.setTop (mkF m 75 #[.val (.ref ch), .val (.int xa), .val (.int xe), .val (.int ((ff A) &&& (255 : Int32))), .val (.int (3 : Int32)), .val (.int lo), .val (.int (191 : Int32)), .unset, .unset] [(.int (237 : Int32)), (.int ((ff A) &&& (255 : Int32)))])) tgt
            refine XS.icmpYes X0.here hx rfl (pc0 := 75) (pc' := 84) rfl (hb hby d1_75) rfl (feq hc75_2).2 (by decide) (by decide) ?_
            show Steps p.tables e below (s₁.setTop (mkF m 84 #[.val (.ref ch), .val (.int xa), .val (.int xe), .val (.int ((ff A) &&& (255 : Int32))), .val (.int (3 : Int32)), .val (.int lo), .val (.int (191 : Int32)), .unset, .unset] [])) tgt
            refine XS.iload X0.here hx rfl (hb hby d1_84) rfl ?_
            rw [hhi] at k
            exact k
        refine own_st (V := s₁.setTop (mkF m 151 #[.val (.ref ch), .val (.int xa), .val (.int xe), .val (.int ((ff A) &&& (255 : Int32))), .val (.int (3 : Int32)), .val (.int lo), .val (.int hi), .unset, .unset] [(.int (xe - xa)), (.int (3 : Int32))])) (fun tgt k => ?_) ?_
        · show Steps p.tables e below (s₁.setTop (mkF m 86 #[.val (.ref ch), .val (.int xa), .val (.int xe), .val (.int ((ff A) &&& (255 : Int32))), .val (.int (3 : Int32)), .val (.int lo), .val (.int (191 : Int32)), .unset, .unset] [(.int hi)])) tgt
          refine XS.istore X0.here hx rfl (hb hby d1_86) rfl (l' := #[.val (.ref ch), .val (.int xa), .val (.int xe), .val (.int ((ff A) &&& (255 : Int32))), .val (.int (3 : Int32)), .val (.int lo), .val (.int hi), .unset, .unset]) rfl ?_
          show Steps p.tables e below (s₁.setTop (mkF m 88 #[.val (.ref ch), .val (.int xa), .val (.int xe), .val (.int ((ff A) &&& (255 : Int32))), .val (.int (3 : Int32)), .val (.int lo), .val (.int hi), .unset, .unset] [])) tgt
          refine XS.goto X0.here hx rfl (pc0 := 88) (pc' := 141) rfl (hb hby d1_88) (by decide) (by decide) ?_
          show Steps p.tables e below (s₁.setTop (mkF m 141 #[.val (.ref ch), .val (.int xa), .val (.int xe), .val (.int ((ff A) &&& (255 : Int32))), .val (.int (3 : Int32)), .val (.int lo), .val (.int hi), .unset, .unset] [])) tgt
          refine XS.iload X0.here hx rfl (hb hby d1_141) rfl ?_
          show Steps p.tables e below (s₁.setTop (mkF m 143 #[.val (.ref ch), .val (.int xa), .val (.int xe), .val (.int ((ff A) &&& (255 : Int32))), .val (.int (3 : Int32)), .val (.int lo), .val (.int hi), .unset, .unset] [(.int (3 : Int32))])) tgt
          refine XS.ifNo X0.here hx rfl (hb hby d1_143) rfl ((if0 _ _).trans (feq (by decide : ¬ ((3 : Int32) = (0 : Int32)))).1) ?_
          show Steps p.tables e below (s₁.setTop (mkF m 146 #[.val (.ref ch), .val (.int xa), .val (.int xe), .val (.int ((ff A) &&& (255 : Int32))), .val (.int (3 : Int32)), .val (.int lo), .val (.int hi), .unset, .unset] [])) tgt
          refine XS.iload X0.here hx rfl (hb hby d1_146) rfl ?_
          show Steps p.tables e below (s₁.setTop (mkF m 148 #[.val (.ref ch), .val (.int xa), .val (.int xe), .val (.int ((ff A) &&& (255 : Int32))), .val (.int (3 : Int32)), .val (.int lo), .val (.int hi), .unset, .unset] [(.int (3 : Int32))])) tgt
          refine XS.iloadN X0.here hx rfl (hb hby d1_148) rfl ?_
          show Steps p.tables e below (s₁.setTop (mkF m 149 #[.val (.ref ch), .val (.int xa), .val (.int xe), .val (.int ((ff A) &&& (255 : Int32))), .val (.int (3 : Int32)), .val (.int lo), .val (.int hi), .unset, .unset] [(.int xe), (.int (3 : Int32))])) tgt
          refine XS.iloadN X0.here hx rfl (hb hby d1_149) rfl ?_
          show Steps p.tables e below (s₁.setTop (mkF m 150 #[.val (.ref ch), .val (.int xa), .val (.int xe), .val (.int ((ff A) &&& (255 : Int32))), .val (.int (3 : Int32)), .val (.int lo), .val (.int hi), .unset, .unset] [(.int xa), (.int xe), (.int (3 : Int32))])) tgt
          refine XS.isub X0.here hx rfl (hb hby d1_150) rfl ?_
          exact k
        by_cases hc151 : (xe - xa) < (3 : Int32)
        · skip
          refine own_st (V := s₁.setTop (mkF m 155 #[.val (.ref ch), .val (.int xa), .val (.int xe), .val (.int ((ff A) &&& (255 : Int32))), .val (.int (3 : Int32)), .val (.int lo), .val (.int hi), .unset, .unset] [(.int (0 : Int32))])) (fun tgt k => ?_) ?_
          · show Steps p.tables e below (s₁.setTop (mkF m 151 #[.val (.ref ch), .val (.int xa), .val (.int xe), .val (.int ((ff A) &&& (255 : Int32))), .val (.int (3 : Int32)), .val (.int lo), .val (.int hi), .unset, .unset] [(.int (xe - xa)), (.int (3 : Int32))])) tgt
            refine XS.icmpNo X0.here hx rfl (hb hby d1_151) rfl (tlt hc151).2.2.2 ?_
            show Steps p.tables e below (s₁.setTop (mkF m 154 #[.val (.ref ch), .val (.int xa), .val (.int xe), .val (.int ((ff A) &&& (255 : Int32))), .val (.int (3 : Int32)), .val (.int lo), .val (.int hi), .unset, .unset] [])) tgt
            refine XS.iconst X0.here hx rfl (hb hby d1_154) ?_
            exact k
          refine own_retI X0 hx hlk Bd.returns (hb hby d1_155) ?_ (by decide) (by decide)
          show Q1 Z ch xa xe ff A h0 n0 (some (.int (0 : Int32))) s₁.heap _
          rw [e0]
          refine ⟨?_, N0, rfl⟩
          exact congrArg (fun q => some (Value.int q)) (by unfold own_ln; rw [if_neg hc22, if_neg hc35, if_pos hc48, ← hlo, ← hhi, if_pos hc151])
        · skip
          refine own_st (V := s₁.setTop (mkF m 171 #[.val (.ref ch), .val (.int xa), .val (.int xe), .val (.int ((ff A) &&& (255 : Int32))), .val (.int (3 : Int32)), .val (.int lo), .val (.int hi), .val (.int ((ff (A + 1)) &&& (255 : Int32))), .unset] [(.int lo), (.int ((ff (A + 1)) &&& (255 : Int32)))])) (fun tgt k => ?_) ?_
          · show Steps p.tables e below (s₁.setTop (mkF m 151 #[.val (.ref ch), .val (.int xa), .val (.int xe), .val (.int ((ff A) &&& (255 : Int32))), .val (.int (3 : Int32)), .val (.int lo), .val (.int hi), .unset, .unset] [(.int (xe - xa)), (.int (3 : Int32))])) tgt
            refine XS.icmpYes X0.here hx rfl (pc0 := 151) (pc' := 156) rfl (hb hby d1_151) rfl (flt hc151).2.2.2 (by decide) (by decide) ?_
            show Steps p.tables e below (s₁.setTop (mkF m 156 #[.val (.ref ch), .val (.int xa), .val (.int xe), .val (.int ((ff A) &&& (255 : Int32))), .val (.int (3 : Int32)), .val (.int lo), .val (.int hi), .unset, .unset] [])) tgt
            refine XS.aloadN X0.here hx rfl (hb hby d1_156) rfl rfl ?_
            show Steps p.tables e below (s₁.setTop (mkF m 157 #[.val (.ref ch), .val (.int xa), .val (.int xe), .val (.int ((ff A) &&& (255 : Int32))), .val (.int (3 : Int32)), .val (.int lo), .val (.int hi), .unset, .unset] [(.ref ch)])) tgt
            refine XS.iloadN X0.here hx rfl (hb hby d1_157) rfl ?_
            show Steps p.tables e below (s₁.setTop (mkF m 158 #[.val (.ref ch), .val (.int xa), .val (.int xe), .val (.int ((ff A) &&& (255 : Int32))), .val (.int (3 : Int32)), .val (.int lo), .val (.int hi), .unset, .unset] [(.int xa), (.ref ch)])) tgt
            refine XS.iconst X0.here hx rfl (hb hby d1_158) ?_
            show Steps p.tables e below (s₁.setTop (mkF m 159 #[.val (.ref ch), .val (.int xa), .val (.int xe), .val (.int ((ff A) &&& (255 : Int32))), .val (.int (3 : Int32)), .val (.int lo), .val (.int hi), .unset, .unset] [(.int (1 : Int32)), (.int xa), (.ref ch)])) tgt
            refine XS.iadd X0.here hx rfl (hb hby d1_159) rfl ?_
            show Steps p.tables e below (s₁.setTop (mkF m 160 #[.val (.ref ch), .val (.int xa), .val (.int xe), .val (.int ((ff A) &&& (255 : Int32))), .val (.int (3 : Int32)), .val (.int lo), .val (.int hi), .unset, .unset] [(.int (xa + (1 : Int32))), (.ref ch)])) tgt
            refine own_baload X0 hx hZ e0 A1 (j := (xa + (1 : Int32))) (k := (A + 1)) a1 (by omega) (g := (mkF m 160 #[.val (.ref ch), .val (.int xa), .val (.int xe), .val (.int ((ff A) &&& (255 : Int32))), .val (.int (3 : Int32)), .val (.int lo), .val (.int hi), .unset, .unset] [(.int (xa + (1 : Int32))), (.ref ch)])) rfl rfl (hb hby d1_160) ?_
            show Steps p.tables e below (s₁.setTop (mkF m 161 #[.val (.ref ch), .val (.int xa), .val (.int xe), .val (.int ((ff A) &&& (255 : Int32))), .val (.int (3 : Int32)), .val (.int lo), .val (.int hi), .unset, .unset] [(.int (ff (A + 1)))])) tgt
            refine XS.sipush X0.here hx rfl (hb hby d1_161) ?_
            show Steps p.tables e below (s₁.setTop (mkF m 164 #[.val (.ref ch), .val (.int xa), .val (.int xe), .val (.int ((ff A) &&& (255 : Int32))), .val (.int (3 : Int32)), .val (.int lo), .val (.int hi), .unset, .unset] [(.int (255 : Int32)), (.int (ff (A + 1)))])) tgt
            refine XS.iand X0.here hx rfl (hb hby d1_164) rfl ?_
            show Steps p.tables e below (s₁.setTop (mkF m 165 #[.val (.ref ch), .val (.int xa), .val (.int xe), .val (.int ((ff A) &&& (255 : Int32))), .val (.int (3 : Int32)), .val (.int lo), .val (.int hi), .unset, .unset] [(.int ((ff (A + 1)) &&& (255 : Int32)))])) tgt
            refine XS.istore X0.here hx rfl (hb hby d1_165) rfl (l' := #[.val (.ref ch), .val (.int xa), .val (.int xe), .val (.int ((ff A) &&& (255 : Int32))), .val (.int (3 : Int32)), .val (.int lo), .val (.int hi), .val (.int ((ff (A + 1)) &&& (255 : Int32))), .unset]) rfl ?_
            show Steps p.tables e below (s₁.setTop (mkF m 167 #[.val (.ref ch), .val (.int xa), .val (.int xe), .val (.int ((ff A) &&& (255 : Int32))), .val (.int (3 : Int32)), .val (.int lo), .val (.int hi), .val (.int ((ff (A + 1)) &&& (255 : Int32))), .unset] [])) tgt
            refine XS.iload X0.here hx rfl (hb hby d1_167) rfl ?_
            show Steps p.tables e below (s₁.setTop (mkF m 169 #[.val (.ref ch), .val (.int xa), .val (.int xe), .val (.int ((ff A) &&& (255 : Int32))), .val (.int (3 : Int32)), .val (.int lo), .val (.int hi), .val (.int ((ff (A + 1)) &&& (255 : Int32))), .unset] [(.int ((ff (A + 1)) &&& (255 : Int32)))])) tgt
            refine XS.iload X0.here hx rfl (hb hby d1_169) rfl ?_
            exact k
          by_cases hc171 : ((ff (A + 1)) &&& (255 : Int32)) < lo
          · skip
            refine own_st (V := s₁.setTop (mkF m 182 #[.val (.ref ch), .val (.int xa), .val (.int xe), .val (.int ((ff A) &&& (255 : Int32))), .val (.int (3 : Int32)), .val (.int lo), .val (.int hi), .val (.int ((ff (A + 1)) &&& (255 : Int32))), .unset] [(.int (0 : Int32))])) (fun tgt k => ?_) ?_
            · show Steps p.tables e below (s₁.setTop (mkF m 171 #[.val (.ref ch), .val (.int xa), .val (.int xe), .val (.int ((ff A) &&& (255 : Int32))), .val (.int (3 : Int32)), .val (.int lo), .val (.int hi), .val (.int ((ff (A + 1)) &&& (255 : Int32))), .unset] [(.int lo), (.int ((ff (A + 1)) &&& (255 : Int32)))])) tgt
              refine XS.icmpYes X0.here hx rfl (pc0 := 171) (pc' := 181) rfl (hb hby d1_171) rfl (tlt hc171).1 (by decide) (by decide) ?_
              show Steps p.tables e below (s₁.setTop (mkF m 181 #[.val (.ref ch), .val (.int xa), .val (.int xe), .val (.int ((ff A) &&& (255 : Int32))), .val (.int (3 : Int32)), .val (.int lo), .val (.int hi), .val (.int ((ff (A + 1)) &&& (255 : Int32))), .unset] [])) tgt
              refine XS.iconst X0.here hx rfl (hb hby d1_181) ?_
              exact k
            refine own_retI X0 hx hlk Bd.returns (hb hby d1_182) ?_ (by decide) (by decide)
            show Q1 Z ch xa xe ff A h0 n0 (some (.int (0 : Int32))) s₁.heap _
            rw [e0]
            refine ⟨?_, N0, rfl⟩
            exact congrArg (fun q => some (Value.int q)) (by unfold own_ln; rw [if_neg hc22, if_neg hc35, if_pos hc48, ← hlo, ← hhi, if_neg hc151, if_pos hc171])
          · skip
            refine own_st (V := s₁.setTop (mkF m 178 #[.val (.ref ch), .val (.int xa), .val (.int xe), .val (.int ((ff A) &&& (255 : Int32))), .val (.int (3 : Int32)), .val (.int lo), .val (.int hi), .val (.int ((ff (A + 1)) &&& (255 : Int32))), .unset] [(.int hi), (.int ((ff (A + 1)) &&& (255 : Int32)))])) (fun tgt k => ?_) ?_
            · show Steps p.tables e below (s₁.setTop (mkF m 171 #[.val (.ref ch), .val (.int xa), .val (.int xe), .val (.int ((ff A) &&& (255 : Int32))), .val (.int (3 : Int32)), .val (.int lo), .val (.int hi), .val (.int ((ff (A + 1)) &&& (255 : Int32))), .unset] [(.int lo), (.int ((ff (A + 1)) &&& (255 : Int32)))])) tgt
              refine XS.icmpNo X0.here hx rfl (hb hby d1_171) rfl (flt hc171).1 ?_
              show Steps p.tables e below (s₁.setTop (mkF m 174 #[.val (.ref ch), .val (.int xa), .val (.int xe), .val (.int ((ff A) &&& (255 : Int32))), .val (.int (3 : Int32)), .val (.int lo), .val (.int hi), .val (.int ((ff (A + 1)) &&& (255 : Int32))), .unset] [])) tgt
              refine XS.iload X0.here hx rfl (hb hby d1_174) rfl ?_
              show Steps p.tables e below (s₁.setTop (mkF m 176 #[.val (.ref ch), .val (.int xa), .val (.int xe), .val (.int ((ff A) &&& (255 : Int32))), .val (.int (3 : Int32)), .val (.int lo), .val (.int hi), .val (.int ((ff (A + 1)) &&& (255 : Int32))), .unset] [(.int ((ff (A + 1)) &&& (255 : Int32)))])) tgt
              refine XS.iload X0.here hx rfl (hb hby d1_176) rfl ?_
              exact k
            by_cases hc178 : hi < ((ff (A + 1)) &&& (255 : Int32))
            · skip
              refine own_st (V := s₁.setTop (mkF m 182 #[.val (.ref ch), .val (.int xa), .val (.int xe), .val (.int ((ff A) &&& (255 : Int32))), .val (.int (3 : Int32)), .val (.int lo), .val (.int hi), .val (.int ((ff (A + 1)) &&& (255 : Int32))), .unset] [(.int (0 : Int32))])) (fun tgt k => ?_) ?_
              · show Steps p.tables e below (s₁.setTop (mkF m 178 #[.val (.ref ch), .val (.int xa), .val (.int xe), .val (.int ((ff A) &&& (255 : Int32))), .val (.int (3 : Int32)), .val (.int lo), .val (.int hi), .val (.int ((ff (A + 1)) &&& (255 : Int32))), .unset] [(.int hi), (.int ((ff (A + 1)) &&& (255 : Int32)))])) tgt
                refine XS.icmpNo X0.here hx rfl (hb hby d1_178) rfl (tlt hc178).2.2.2 ?_
                show Steps p.tables e below (s₁.setTop (mkF m 181 #[.val (.ref ch), .val (.int xa), .val (.int xe), .val (.int ((ff A) &&& (255 : Int32))), .val (.int (3 : Int32)), .val (.int lo), .val (.int hi), .val (.int ((ff (A + 1)) &&& (255 : Int32))), .unset] [])) tgt
                refine XS.iconst X0.here hx rfl (hb hby d1_181) ?_
                exact k
              refine own_retI X0 hx hlk Bd.returns (hb hby d1_182) ?_ (by decide) (by decide)
              show Q1 Z ch xa xe ff A h0 n0 (some (.int (0 : Int32))) s₁.heap _
              rw [e0]
              refine ⟨?_, N0, rfl⟩
              exact congrArg (fun q => some (Value.int q)) (by unfold own_ln; rw [if_neg hc22, if_neg hc35, if_pos hc48, ← hlo, ← hhi, if_neg hc151, if_neg hc171, if_pos hc178])
            · skip
              refine own_st (V := s₁.setTop (mkF m 208 #[.val (.ref ch), .val (.int xa), .val (.int xe), .val (.int ((ff A) &&& (255 : Int32))), .val (.int (3 : Int32)), .val (.int lo), .val (.int hi), .val (.int ((ff (A + 1)) &&& (255 : Int32))), .val (.int (xa + (2 : Int32)))] [(.int (128 : Int32)), (.int ((ff (A + 2)) &&& (192 : Int32)))])) (fun tgt k => ?_) ?_
              · show Steps p.tables e below (s₁.setTop (mkF m 178 #[.val (.ref ch), .val (.int xa), .val (.int xe), .val (.int ((ff A) &&& (255 : Int32))), .val (.int (3 : Int32)), .val (.int lo), .val (.int hi), .val (.int ((ff (A + 1)) &&& (255 : Int32))), .unset] [(.int hi), (.int ((ff (A + 1)) &&& (255 : Int32)))])) tgt
                refine XS.icmpYes X0.here hx rfl (pc0 := 178) (pc' := 183) rfl (hb hby d1_178) rfl (flt hc178).2.2.2 (by decide) (by decide) ?_
                show Steps p.tables e below (s₁.setTop (mkF m 183 #[.val (.ref ch), .val (.int xa), .val (.int xe), .val (.int ((ff A) &&& (255 : Int32))), .val (.int (3 : Int32)), .val (.int lo), .val (.int hi), .val (.int ((ff (A + 1)) &&& (255 : Int32))), .unset] [])) tgt
                refine XS.iloadN X0.here hx rfl (hb hby d1_183) rfl ?_
                show Steps p.tables e below (s₁.setTop (mkF m 184 #[.val (.ref ch), .val (.int xa), .val (.int xe), .val (.int ((ff A) &&& (255 : Int32))), .val (.int (3 : Int32)), .val (.int lo), .val (.int hi), .val (.int ((ff (A + 1)) &&& (255 : Int32))), .unset] [(.int xa)])) tgt
                refine XS.iconst X0.here hx rfl (hb hby d1_184) ?_
                show Steps p.tables e below (s₁.setTop (mkF m 185 #[.val (.ref ch), .val (.int xa), .val (.int xe), .val (.int ((ff A) &&& (255 : Int32))), .val (.int (3 : Int32)), .val (.int lo), .val (.int hi), .val (.int ((ff (A + 1)) &&& (255 : Int32))), .unset] [(.int (2 : Int32)), (.int xa)])) tgt
                refine XS.iadd X0.here hx rfl (hb hby d1_185) rfl ?_
                show Steps p.tables e below (s₁.setTop (mkF m 186 #[.val (.ref ch), .val (.int xa), .val (.int xe), .val (.int ((ff A) &&& (255 : Int32))), .val (.int (3 : Int32)), .val (.int lo), .val (.int hi), .val (.int ((ff (A + 1)) &&& (255 : Int32))), .unset] [(.int (xa + (2 : Int32)))])) tgt
                refine XS.istore X0.here hx rfl (hb hby d1_186) rfl (l' := #[.val (.ref ch), .val (.int xa), .val (.int xe), .val (.int ((ff A) &&& (255 : Int32))), .val (.int (3 : Int32)), .val (.int lo), .val (.int hi), .val (.int ((ff (A + 1)) &&& (255 : Int32))), .val (.int (xa + (2 : Int32)))]) rfl ?_
                show Steps p.tables e below (s₁.setTop (mkF m 188 #[.val (.ref ch), .val (.int xa), .val (.int xe), .val (.int ((ff A) &&& (255 : Int32))), .val (.int (3 : Int32)), .val (.int lo), .val (.int hi), .val (.int ((ff (A + 1)) &&& (255 : Int32))), .val (.int (xa + (2 : Int32)))] [])) tgt
                refine XS.iload X0.here hx rfl (hb hby d1_188) rfl ?_
                show Steps p.tables e below (s₁.setTop (mkF m 190 #[.val (.ref ch), .val (.int xa), .val (.int xe), .val (.int ((ff A) &&& (255 : Int32))), .val (.int (3 : Int32)), .val (.int lo), .val (.int hi), .val (.int ((ff (A + 1)) &&& (255 : Int32))), .val (.int (xa + (2 : Int32)))] [(.int (xa + (2 : Int32)))])) tgt
                refine XS.iloadN X0.here hx rfl (hb hby d1_190) rfl ?_
                show Steps p.tables e below (s₁.setTop (mkF m 191 #[.val (.ref ch), .val (.int xa), .val (.int xe), .val (.int ((ff A) &&& (255 : Int32))), .val (.int (3 : Int32)), .val (.int lo), .val (.int hi), .val (.int ((ff (A + 1)) &&& (255 : Int32))), .val (.int (xa + (2 : Int32)))] [(.int xa), (.int (xa + (2 : Int32)))])) tgt
                refine XS.iload X0.here hx rfl (hb hby d1_191) rfl ?_
                show Steps p.tables e below (s₁.setTop (mkF m 193 #[.val (.ref ch), .val (.int xa), .val (.int xe), .val (.int ((ff A) &&& (255 : Int32))), .val (.int (3 : Int32)), .val (.int lo), .val (.int hi), .val (.int ((ff (A + 1)) &&& (255 : Int32))), .val (.int (xa + (2 : Int32)))] [(.int (3 : Int32)), (.int xa), (.int (xa + (2 : Int32)))])) tgt
                refine XS.iadd X0.here hx rfl (hb hby d1_193) rfl ?_
                show Steps p.tables e below (s₁.setTop (mkF m 194 #[.val (.ref ch), .val (.int xa), .val (.int xe), .val (.int ((ff A) &&& (255 : Int32))), .val (.int (3 : Int32)), .val (.int lo), .val (.int hi), .val (.int ((ff (A + 1)) &&& (255 : Int32))), .val (.int (xa + (2 : Int32)))] [(.int (xa + (3 : Int32))), (.int (xa + (2 : Int32)))])) tgt
                refine XS.icmpNo X0.here hx rfl (hb hby d1_194) rfl (tlt (by rw [own_ilt]; omega)).2.1 ?_
                show Steps p.tables e below (s₁.setTop (mkF m 197 #[.val (.ref ch), .val (.int xa), .val (.int xe), .val (.int ((ff A) &&& (255 : Int32))), .val (.int (3 : Int32)), .val (.int lo), .val (.int hi), .val (.int ((ff (A + 1)) &&& (255 : Int32))), .val (.int (xa + (2 : Int32)))] [])) tgt
                refine XS.aloadN X0.here hx rfl (hb hby d1_197) rfl rfl ?_
                show Steps p.tables e below (s₁.setTop (mkF m 198 #[.val (.ref ch), .val (.int xa), .val (.int xe), .val (.int ((ff A) &&& (255 : Int32))), .val (.int (3 : Int32)), .val (.int lo), .val (.int hi), .val (.int ((ff (A + 1)) &&& (255 : Int32))), .val (.int (xa + (2 : Int32)))] [(.ref ch)])) tgt
                refine XS.iload X0.here hx rfl (hb hby d1_198) rfl ?_
                show Steps p.tables e below (s₁.setTop (mkF m 200 #[.val (.ref ch), .val (.int xa), .val (.int xe), .val (.int ((ff A) &&& (255 : Int32))), .val (.int (3 : Int32)), .val (.int lo), .val (.int hi), .val (.int ((ff (A + 1)) &&& (255 : Int32))), .val (.int (xa + (2 : Int32)))] [(.int (xa + (2 : Int32))), (.ref ch)])) tgt
                refine own_baload X0 hx hZ e0 A1 (j := (xa + (2 : Int32))) (k := (A + 2)) a2 (by omega) (g := (mkF m 200 #[.val (.ref ch), .val (.int xa), .val (.int xe), .val (.int ((ff A) &&& (255 : Int32))), .val (.int (3 : Int32)), .val (.int lo), .val (.int hi), .val (.int ((ff (A + 1)) &&& (255 : Int32))), .val (.int (xa + (2 : Int32)))] [(.int (xa + (2 : Int32))), (.ref ch)])) rfl rfl (hb hby d1_200) ?_
                show Steps p.tables e below (s₁.setTop (mkF m 201 #[.val (.ref ch), .val (.int xa), .val (.int xe), .val (.int ((ff A) &&& (255 : Int32))), .val (.int (3 : Int32)), .val (.int lo), .val (.int hi), .val (.int ((ff (A + 1)) &&& (255 : Int32))), .val (.int (xa + (2 : Int32)))] [(.int (ff (A + 2)))])) tgt
                refine XS.sipush X0.here hx rfl (hb hby d1_201) ?_
                show Steps p.tables e below (s₁.setTop (mkF m 204 #[.val (.ref ch), .val (.int xa), .val (.int xe), .val (.int ((ff A) &&& (255 : Int32))), .val (.int (3 : Int32)), .val (.int lo), .val (.int hi), .val (.int ((ff (A + 1)) &&& (255 : Int32))), .val (.int (xa + (2 : Int32)))] [(.int (192 : Int32)), (.int (ff (A + 2)))])) tgt
                refine XS.iand X0.here hx rfl (hb hby d1_204) rfl ?_
                show Steps p.tables e below (s₁.setTop (mkF m 205 #[.val (.ref ch), .val (.int xa), .val (.int xe), .val (.int ((ff A) &&& (255 : Int32))), .val (.int (3 : Int32)), .val (.int lo), .val (.int hi), .val (.int ((ff (A + 1)) &&& (255 : Int32))), .val (.int (xa + (2 : Int32)))] [(.int ((ff (A + 2)) &&& (192 : Int32)))])) tgt
                refine XS.sipush X0.here hx rfl (hb hby d1_205) ?_
                exact k
              by_cases hc208 : ((ff (A + 2)) &&& (192 : Int32)) = (128 : Int32)
              · skip
                refine own_st (V := s₁.setTop (mkF m 221 #[.val (.ref ch), .val (.int xa), .val (.int xe), .val (.int ((ff A) &&& (255 : Int32))), .val (.int (3 : Int32)), .val (.int lo), .val (.int hi), .val (.int ((ff (A + 1)) &&& (255 : Int32))), .val (.int ((xa + (2 : Int32)) + (1 : Int32)))] [(.int (3 : Int32))])) (fun tgt k => ?_) ?_
                · show Steps p.tables e below (s₁.setTop (mkF m 208 #[.val (.ref ch), .val (.int xa), .val (.int xe), .val (.int ((ff A) &&& (255 : Int32))), .val (.int (3 : Int32)), .val (.int lo), .val (.int hi), .val (.int ((ff (A + 1)) &&& (255 : Int32))), .val (.int (xa + (2 : Int32)))] [(.int (128 : Int32)), (.int ((ff (A + 2)) &&& (192 : Int32)))])) tgt
                  refine XS.icmpYes X0.here hx rfl (pc0 := 208) (pc' := 213) rfl (hb hby d1_208) rfl (teq hc208).1 (by decide) (by decide) ?_
                  show Steps p.tables e below (s₁.setTop (mkF m 213 #[.val (.ref ch), .val (.int xa), .val (.int xe), .val (.int ((ff A) &&& (255 : Int32))), .val (.int (3 : Int32)), .val (.int lo), .val (.int hi), .val (.int ((ff (A + 1)) &&& (255 : Int32))), .val (.int (xa + (2 : Int32)))] [])) tgt
                  refine XS.iinc X0.here hx rfl (hb hby d1_213) rfl (l' := #[.val (.ref ch), .val (.int xa), .val (.int xe), .val (.int ((ff A) &&& (255 : Int32))), .val (.int (3 : Int32)), .val (.int lo), .val (.int hi), .val (.int ((ff (A + 1)) &&& (255 : Int32))), .val (.int ((xa + (2 : Int32)) + (1 : Int32)))]) rfl ?_
                  show Steps p.tables e below (s₁.setTop (mkF m 216 #[.val (.ref ch), .val (.int xa), .val (.int xe), .val (.int ((ff A) &&& (255 : Int32))), .val (.int (3 : Int32)), .val (.int lo), .val (.int hi), .val (.int ((ff (A + 1)) &&& (255 : Int32))), .val (.int ((xa + (2 : Int32)) + (1 : Int32)))] [])) tgt
                  refine XS.goto X0.here hx rfl (pc0 := 216) (pc' := 188) rfl (hb hby d1_216) (by decide) (by decide) ?_
                  show Steps p.tables e below (s₁.setTop (mkF m 188 #[.val (.ref ch), .val (.int xa), .val (.int xe), .val (.int ((ff A) &&& (255 : Int32))), .val (.int (3 : Int32)), .val (.int lo), .val (.int hi), .val (.int ((ff (A + 1)) &&& (255 : Int32))), .val (.int ((xa + (2 : Int32)) + (1 : Int32)))] [])) tgt
                  refine XS.iload X0.here hx rfl (hb hby d1_188) rfl ?_
                  show Steps p.tables e below (s₁.setTop (mkF m 190 #[.val (.ref ch), .val (.int xa), .val (.int xe), .val (.int ((ff A) &&& (255 : Int32))), .val (.int (3 : Int32)), .val (.int lo), .val (.int hi), .val (.int ((ff (A + 1)) &&& (255 : Int32))), .val (.int ((xa + (2 : Int32)) + (1 : Int32)))] [(.int ((xa + (2 : Int32)) + (1 : Int32)))])) tgt
                  refine XS.iloadN X0.here hx rfl (hb hby d1_190) rfl ?_
                  show Steps p.tables e below (s₁.setTop (mkF m 191 #[.val (.ref ch), .val (.int xa), .val (.int xe), .val (.int ((ff A) &&& (255 : Int32))), .val (.int (3 : Int32)), .val (.int lo), .val (.int hi), .val (.int ((ff (A + 1)) &&& (255 : Int32))), .val (.int ((xa + (2 : Int32)) + (1 : Int32)))] [(.int xa), (.int ((xa + (2 : Int32)) + (1 : Int32)))])) tgt
                  refine XS.iload X0.here hx rfl (hb hby d1_191) rfl ?_
                  show Steps p.tables e below (s₁.setTop (mkF m 193 #[.val (.ref ch), .val (.int xa), .val (.int xe), .val (.int ((ff A) &&& (255 : Int32))), .val (.int (3 : Int32)), .val (.int lo), .val (.int hi), .val (.int ((ff (A + 1)) &&& (255 : Int32))), .val (.int ((xa + (2 : Int32)) + (1 : Int32)))] [(.int (3 : Int32)), (.int xa), (.int ((xa + (2 : Int32)) + (1 : Int32)))])) tgt
                  refine XS.iadd X0.here hx rfl (hb hby d1_193) rfl ?_
                  show Steps p.tables e below (s₁.setTop (mkF m 194 #[.val (.ref ch), .val (.int xa), .val (.int xe), .val (.int ((ff A) &&& (255 : Int32))), .val (.int (3 : Int32)), .val (.int lo), .val (.int hi), .val (.int ((ff (A + 1)) &&& (255 : Int32))), .val (.int ((xa + (2 : Int32)) + (1 : Int32)))] [(.int (xa + (3 : Int32))), (.int ((xa + (2 : Int32)) + (1 : Int32)))])) tgt
                  refine XS.icmpYes X0.here hx rfl (pc0 := 194) (pc' := 219) rfl (hb hby d1_194) rfl (flt (by rw [own_ilt]; omega)).2.1 (by decide) (by decide) ?_
                  show Steps p.tables e below (s₁.setTop (mkF m 219 #[.val (.ref ch), .val (.int xa), .val (.int xe), .val (.int ((ff A) &&& (255 : Int32))), .val (.int (3 : Int32)), .val (.int lo), .val (.int hi), .val (.int ((ff (A + 1)) &&& (255 : Int32))), .val (.int ((xa + (2 : Int32)) + (1 : Int32)))] [])) tgt
                  refine XS.iload X0.here hx rfl (hb hby d1_219) rfl ?_
                  exact k
                refine own_retI X0 hx hlk Bd.returns (hb hby d1_221) ?_ (by decide) (by decide)
                show Q1 Z ch xa xe ff A h0 n0 (some (.int (3 : Int32))) s₁.heap _
                rw [e0]
                refine ⟨?_, N0, rfl⟩
                exact congrArg (fun q => some (Value.int q)) (by unfold own_ln; rw [if_neg hc22, if_neg hc35, if_pos hc48, ← hlo, ← hhi, if_neg hc151, if_neg hc171, if_neg hc178, if_pos hc208])
              · skip
                refine own_st (V := s₁.setTop (mkF m 212 #[.val (.ref ch), .val (.int xa), .val (.int xe), .val (.int ((ff A) &&& (255 : Int32))), .val (.int (3 : Int32)), .val (.int lo), .val (.int hi), .val (.int ((ff (A + 1)) &&& (255 : Int32))), .val (.int (xa + (2 : Int32)))] [(.int (0 : Int32))])) (fun tgt k => ?_) ?_
                · show Steps p.tables e below (s₁.setTop (mkF m 208 #[.val (.ref ch), .val (.int xa), .val (.int xe), .val (.int ((ff A) &&& (255 : Int32))), .val (.int (3 : Int32)), .val (.int lo), .val (.int hi), .val (.int ((ff (A + 1)) &&& (255 : Int32))), .val (.int (xa + (2 : Int32)))] [(.int (128 : Int32)), (.int ((ff (A + 2)) &&& (192 : Int32)))])) tgt
                  refine XS.icmpNo X0.here hx rfl (hb hby d1_208) rfl (feq hc208).1 ?_
                  show Steps p.tables e below (s₁.setTop (mkF m 211 #[.val (.ref ch), .val (.int xa), .val (.int xe), .val (.int ((ff A) &&& (255 : Int32))), .val (.int (3 : Int32)), .val (.int lo), .val (.int hi), .val (.int ((ff (A + 1)) &&& (255 : Int32))), .val (.int (xa + (2 : Int32)))] [])) tgt
                  refine XS.iconst X0.here hx rfl (hb hby d1_211) ?_
                  exact k
                refine own_retI X0 hx hlk Bd.returns (hb hby d1_212) ?_ (by decide) (by decide)
                show Q1 Z ch xa xe ff A h0 n0 (some (.int (0 : Int32))) s₁.heap _
                rw [e0]
                refine ⟨?_, N0, rfl⟩
                exact congrArg (fun q => some (Value.int q)) (by unfold own_ln; rw [if_neg hc22, if_neg hc35, if_pos hc48, ← hlo, ← hhi, if_neg hc151, if_neg hc171, if_neg hc178, if_neg hc208])
      · skip
        refine own_st (V := s₁.setTop (mkF m 95 #[.val (.ref ch), .val (.int xa), .val (.int xe), .val (.int ((ff A) &&& (255 : Int32))), .unset, .val (.int (128 : Int32)), .val (.int (191 : Int32)), .unset, .unset] [(.int (245 : Int32)), (.int ((ff A) &&& (255 : Int32)))])) (fun tgt k => ?_) ?_
        · show Steps p.tables e below (s₁.setTop (mkF m 48 #[.val (.ref ch), .val (.int xa), .val (.int xe), .val (.int ((ff A) &&& (255 : Int32))), .unset, .val (.int (128 : Int32)), .val (.int (191 : Int32)), .unset, .unset] [(.int (240 : Int32)), (.int ((ff A) &&& (255 : Int32)))])) tgt
          refine XS.icmpYes X0.here hx rfl (pc0 := 48) (pc' := 91) rfl (hb hby d1_48) rfl (flt hc48).2.1 (by decide) (by decide) ?_
          show Steps p.tables e below (s₁.setTop (mkF m 91 #[.val (.ref ch), .val (.int xa), .val (.int xe), .val (.int ((ff A) &&& (255 : Int32))), .unset, .val (.int (128 : Int32)), .val (.int (191 : Int32)), .unset, .unset] [])) tgt
          refine XS.iloadN X0.here hx rfl (hb hby d1_91) rfl ?_
          show Steps p.tables e below (s₁.setTop (mkF m 92 #[.val (.ref ch), .val (.int xa), .val (.int xe), .val (.int ((ff A) &&& (255 : Int32))), .unset, .val (.int (128 : Int32)), .val (.int (191 : Int32)), .unset, .unset] [(.int ((ff A) &&& (255 : Int32)))])) tgt
          refine XS.sipush X0.here hx rfl (hb hby d1_92) ?_
          exact k
        by_cases hc95 : ((ff A) &&& (255 : Int32)) < (245 : Int32)
        · skip
          refine own_st (V := s₁.setTop (mkF m 105 #[.val (.ref ch), .val (.int xa), .val (.int xe), .val (.int ((ff A) &&& (255 : Int32))), .val (.int (4 : Int32)), .val (.int (128 : Int32)), .val (.int (191 : Int32)), .unset, .unset] [(.int (240 : Int32)), (.int ((ff A) &&& (255 : Int32)))])) (fun tgt k => ?_) ?_
          · show Steps p.tables e below (s₁.setTop (mkF m 95 #[.val (.ref ch), .val (.int xa), .val (.int xe), .val (.int ((ff A) &&& (255 : Int32))), .unset, .val (.int (128 : Int32)), .val (.int (191 : Int32)), .unset, .unset] [(.int (245 : Int32)), (.int ((ff A) &&& (255 : Int32)))])) tgt
            refine XS.icmpNo X0.here hx rfl (hb hby d1_95) rfl (tlt hc95).2.1 ?_
            show Steps p.tables e below (s₁.setTop (mkF m 98 #[.val (.ref ch), .val (.int xa), .val (.int xe), .val (.int ((ff A) &&& (255 : Int32))), .unset, .val (.int (128 : Int32)), .val (.int (191 : Int32)), .unset, .unset] [])) tgt
            refine XS.iconst X0.here hx rfl (hb hby d1_98) ?_
            show Steps p.tables e below (s₁.setTop (mkF m 99 #[.val (.ref ch), .val (.int xa), .val (.int xe), .val (.int ((ff A) &&& (255 : Int32))), .unset, .val (.int (128 : Int32)), .val (.int (191 : Int32)), .unset, .unset] [(.int (4 : Int32))])) tgt
            refine XS.istore X0.here hx rfl (hb hby d1_99) rfl (l' := #[.val (.ref ch), .val (.int xa), .val (.int xe), .val (.int ((ff A) &&& (255 : Int32))), .val (.int (4 : Int32)), .val (.int (128 : Int32)), .val (.int (191 : Int32)), .unset, .unset]) rfl ?_
            show Steps p.tables e below (s₁.setTop (mkF m 101 #[.val (.ref ch), .val (.int xa), .val (.int xe), .val (.int ((ff A) &&& (255 : Int32))), .val (.int (4 : Int32)), .val (.int (128 : Int32)), .val (.int (191 : Int32)), .unset, .unset] [])) tgt
            refine XS.iloadN X0.here hx rfl (hb hby d1_101) rfl ?_
            show Steps p.tables e below (s₁.setTop (mkF m 102 #[.val (.ref ch), .val (.int xa), .val (.int xe), .val (.int ((ff A) &&& (255 : Int32))), .val (.int (4 : Int32)), .val (.int (128 : Int32)), .val (.int (191 : Int32)), .unset, .unset] [(.int ((ff A) &&& (255 : Int32)))])) tgt
            refine XS.sipush X0.here hx rfl (hb hby d1_102) ?_
            exact k
          obtain ⟨lo, hlo⟩ : ∃ z : Int32, z = (if ((ff A) &&& (255 : Int32)) = (240 : Int32) then (144 : Int32) else (128 : Int32)) := ⟨_, rfl⟩
          refine own_st (V := s₁.setTop (mkF m 116 #[.val (.ref ch), .val (.int xa), .val (.int xe), .val (.int ((ff A) &&& (255 : Int32))), .val (.int (4 : Int32)), .val (.int (128 : Int32)), .val (.int (191 : Int32)), .unset, .unset] [(.int lo)])) (fun tgt k => ?_) ?_
          · skip
            by_cases hc105_2 : ((ff A) &&& (255 : Int32)) = (240 : Int32)
            · skip
              rw [if_pos hc105_2] at hlo
              show Steps p.tables e below (s₁.setTop (mkF m 105 #[.val (.ref ch), .val (.int xa), .val (.int xe), .val (.int ((ff A) &&& (255 : Int32))), .val (.int (4 : Int32)), .val (.int (128 : Int32)), .val (.int (191 : Int32)), .unset, .unset] [(.int (240 : Int32)), (.int ((ff A) &&& (255 : Int32)))])) tgt
              refine XS.icmpNo X0.here hx rfl (hb hby d1_105) rfl (teq hc105_2).2 ?_
              show Steps p.tables e below (s₁.setTop (mkF m 108 #[.val (.ref ch), .val (.int xa), .val (.int xe), .val (.int ((ff A) &&& (255 : Int32))), .val (.int (4 : Int32)), .val (.int (128 : Int32)), .val (.int (191 : Int32)), .unset, .unset] [])) tgt
              refine XS.sipush X0.here hx rfl (hb hby d1_108) ?_
              show Steps p.tables e below (s₁.setTop (mkF m 111 #[.val (.ref ch), .val (.int xa), .val (.int xe), .val (.int ((ff A) &&& (255 : Int32))), .val (.int (4 : Int32)), .val (.int (128 : Int32)), .val (.int (191 : Int32)), .unset, .unset] [(.int (144 : Int32))])) tgt
              refine XS.goto X0.here hx rfl (pc0 := 111) (pc' := 116) rfl (hb hby d1_111) (by decide) (by decide) ?_
              rw [hlo] at k
              exact k
            · skip
              rw [if_neg hc105_2] at hlo
              show Steps p.tables e below (s₁.setTop (mkF m 105 #[.val (.ref ch), .val (.int xa), .val (.int xe), .val (.int ((ff A) &&& (255 : Int32))), .val (.int (4 : Int32)), .val (.int (128 : Int32)), .val (.int (191 : Int32)), .unset, .unset] [(.int (240 : Int32)), (.int ((ff A) &&& (255 : Int32)))])) tgt
              refine XS.icmpYes X0.here hx rfl (pc0 := 105) (pc' := 114) rfl (hb hby d1_105) rfl (feq hc105_2).2 (by decide) (by decide) ?_
              show Steps p.tables e below (s₁.setTop (mkF m 114 #[.val (.ref ch), .val (.int xa), .val (.int xe), .val (.int ((ff A) &&& (255 : Int32))), .val (.int (4 : Int32)), .val (.int (128 : Int32)), .val (.int (191 : Int32)), .unset, .unset] [])) tgt
              refine XS.iload X0.here hx rfl (hb hby d1_114) rfl ?_
              rw [hlo] at k
              exact k
          refine own_st (V := s₁.setTop (mkF m 122 #[.val (.ref ch), .val (.int xa), .val (.int xe), .val (.int ((ff A) &&& (255 : Int32))), .val (.int (4 : Int32)), .val (.int lo), .val (.int (191 : Int32)), .unset, .unset] [(.int (244 : Int32)), (.int ((ff A) &&& (255 : Int32)))])) (fun tgt k => ?_) ?_
          · show Steps p.tables e below (s₁.setTop (mkF m 116 #[.val (.ref ch), .val (.int xa), .val (.int xe), .val (.int ((ff A) &&& (255 : Int32))), .val (.int (4 : Int32)), .val (.int (128 : Int32)), .val (.int (191 : Int32)), .unset, .unset] [(.int lo)])) tgt
            refine XS.istore X0.here hx rfl (hb hby d1_116) rfl (l' := #[.val (.ref ch), .val (.int xa), .val (.int xe), .val (.int ((ff A) &&& (255 : Int32))), .val (.int (4 : Int32)), .val (.int lo), .val (.int (191 : Int32)), .unset, .unset]) rfl ?_
            show Steps p.tables e below (s₁.setTop (mkF m 118 #[.val (.ref ch), .val (.int xa), .val (.int xe), .val (.int ((ff A) &&& (255 : Int32))), .val (.int (4 : Int32)), .val (.int lo), .val (.int (191 : Int32)), .unset, .unset] [])) tgt
            refine XS.iloadN X0.here hx rfl (hb hby d1_118) rfl ?_
            show Steps p.tables e below (s₁.setTop (mkF m 119 #[.val (.ref ch), .val (.int xa), .val (.int xe), .val (.int ((ff A) &&& (255 : Int32))), .val (.int (4 : Int32)), .val (.int lo), .val (.int (191 : Int32)), .unset, .unset] [(.int ((ff A) &&& (255 : Int32)))])) tgt
            refine XS.sipush X0.here hx rfl (hb hby d1_119) ?_
            exact k
          obtain ⟨hi, hhi⟩ : ∃ z : Int32, z = (if ((ff A) &&& (255 : Int32)) = (244 : Int32) then (143 : Int32) else (191 : Int32)) := ⟨_, rfl⟩
          refine own_st (V := s₁.setTop (mkF m 133 #[.val (.ref ch), .val (.int xa), .val (.int xe), .val (.int ((ff A) &&& (255 : Int32))), .val (.int (4 : Int32)), .val (.int lo), .val (.int (191 : Int32)), .unset, .unset] [(.int hi)])) (fun tgt k => ?_) ?_
          · skip
            by_cases hc122_2 : ((ff A) &&& (255 : Int32)) = (244 : Int32)
            · skip
              rw [if_pos hc122_2] at hhi
              show Steps p.tables e below (s₁.setTop (mkF m 122 #[.val (.ref ch), .val (.int xa), .val (.int xe), .val (.int ((ff A) &&& (255 : Int32))), .val (.int (4 : Int32)), .val (.int lo), .val (.int (191 : Int32)), .unset, .unset] [(.int (244 : Int32)), (.int ((ff A) &&& (255 : Int32)))])) tgt
              refine XS.icmpNo X0.here hx rfl (hb hby d1_122) rfl (teq hc122_2).2 ?_
              show Steps p.tables e below (s₁.setTop (mkF m 125 #[.val (.ref ch), .val (.int xa), .val (.int xe), .val (.int ((ff A) &&& (255 : Int32))), .val (.int (4 : Int32)), .val (.int lo), .val (.int (191 : Int32)), .unset, .unset] [])) tgt
              refine XS.sipush X0.here hx rfl (hb hby d1_125) ?_
              show Steps p.tables e below (s₁.setTop (mkF m 128 #[.val (.ref ch), .val (.int xa), .val (.int xe), .val (.int ((ff A) &&& (255 : Int32))), .val (.int (4 : Int32)), .val (.int lo), .val (.int (191 : Int32)), .unset, .unset] [(.int (143 : Int32))])) tgt
              refine XS.goto X0.here hx rfl (pc0 := 128) (pc' := 133) rfl (hb hby d1_128) (by decide) (by decide) ?_
              rw [hhi] at k
              exact k
            · skip
              rw [if_neg hc122_2] at hhi
              show Steps p.tables e below (s₁.setTop (mkF m 122 #[.val (.ref ch), .val (.int xa), .val (.int xe), .val (.int ((ff A) &&& (255 : Int32))), .val (.int (4 : Int32)), .val (.int lo), .val (.int (191 : Int32)), .unset, .unset] [(.int (244 : Int32)), (.int ((ff A) &&& (255 : Int32)))])) tgt
              refine XS.icmpYes X0.here hx rfl (pc0 := 122) (pc' := 131) rfl (hb hby d1_122) rfl (feq hc122_2).2 (by decide) (by decide) ?_
              show Steps p.tables e below (s₁.setTop (mkF m 131 #[.val (.ref ch), .val (.int xa), .val (.int xe), .val (.int ((ff A) &&& (255 : Int32))), .val (.int (4 : Int32)), .val (.int lo), .val (.int (191 : Int32)), .unset, .unset] [])) tgt
              refine XS.iload X0.here hx rfl (hb hby d1_131) rfl ?_
              rw [hhi] at k
              exact k
          refine own_st (V := s₁.setTop (mkF m 151 #[.val (.ref ch), .val (.int xa), .val (.int xe), .val (.int ((ff A) &&& (255 : Int32))), .val (.int (4 : Int32)), .val (.int lo), .val (.int hi), .unset, .unset] [(.int (xe - xa)), (.int (4 : Int32))])) (fun tgt k => ?_) ?_
          · show Steps p.tables e below (s₁.setTop (mkF m 133 #[.val (.ref ch), .val (.int xa), .val (.int xe), .val (.int ((ff A) &&& (255 : Int32))), .val (.int (4 : Int32)), .val (.int lo), .val (.int (191 : Int32)), .unset, .unset] [(.int hi)])) tgt
            refine XS.istore X0.here hx rfl (hb hby d1_133) rfl (l' := #[.val (.ref ch), .val (.int xa), .val (.int xe), .val (.int ((ff A) &&& (255 : Int32))), .val (.int (4 : Int32)), .val (.int lo), .val (.int hi), .unset, .unset]) rfl ?_
            show Steps p.tables e below (s₁.setTop (mkF m 135 #[.val (.ref ch), .val (.int xa), .val (.int xe), .val (.int ((ff A) &&& (255 : Int32))), .val (.int (4 : Int32)), .val (.int lo), .val (.int hi), .unset, .unset] [])) tgt
            refine XS.goto X0.here hx rfl (pc0 := 135) (pc' := 141) rfl (hb hby d1_135) (by decide) (by decide) ?_
            show Steps p.tables e below (s₁.setTop (mkF m 141 #[.val (.ref ch), .val (.int xa), .val (.int xe), .val (.int ((ff A) &&& (255 : Int32))), .val (.int (4 : Int32)), .val (.int lo), .val (.int hi), .unset, .unset] [])) tgt
            refine XS.iload X0.here hx rfl (hb hby d1_141) rfl ?_
            show Steps p.tables e below (s₁.setTop (mkF m 143 #[.val (.ref ch), .val (.int xa), .val (.int xe), .val (.int ((ff A) &&& (255 : Int32))), .val (.int (4 : Int32)), .val (.int lo), .val (.int hi), .unset, .unset] [(.int (4 : Int32))])) tgt
            refine XS.ifNo X0.here hx rfl (hb hby d1_143) rfl ((if0 _ _).trans (feq (by decide : ¬ ((4 : Int32) = (0 : Int32)))).1) ?_
            show Steps p.tables e below (s₁.setTop (mkF m 146 #[.val (.ref ch), .val (.int xa), .val (.int xe), .val (.int ((ff A) &&& (255 : Int32))), .val (.int (4 : Int32)), .val (.int lo), .val (.int hi), .unset, .unset] [])) tgt
            refine XS.iload X0.here hx rfl (hb hby d1_146) rfl ?_
            show Steps p.tables e below (s₁.setTop (mkF m 148 #[.val (.ref ch), .val (.int xa), .val (.int xe), .val (.int ((ff A) &&& (255 : Int32))), .val (.int (4 : Int32)), .val (.int lo), .val (.int hi), .unset, .unset] [(.int (4 : Int32))])) tgt
            refine XS.iloadN X0.here hx rfl (hb hby d1_148) rfl ?_
            show Steps p.tables e below (s₁.setTop (mkF m 149 #[.val (.ref ch), .val (.int xa), .val (.int xe), .val (.int ((ff A) &&& (255 : Int32))), .val (.int (4 : Int32)), .val (.int lo), .val (.int hi), .unset, .unset] [(.int xe), (.int (4 : Int32))])) tgt
            refine XS.iloadN X0.here hx rfl (hb hby d1_149) rfl ?_
            show Steps p.tables e below (s₁.setTop (mkF m 150 #[.val (.ref ch), .val (.int xa), .val (.int xe), .val (.int ((ff A) &&& (255 : Int32))), .val (.int (4 : Int32)), .val (.int lo), .val (.int hi), .unset, .unset] [(.int xa), (.int xe), (.int (4 : Int32))])) tgt
            refine XS.isub X0.here hx rfl (hb hby d1_150) rfl ?_
            exact k
          by_cases hc151 : (xe - xa) < (4 : Int32)
          · skip
            refine own_st (V := s₁.setTop (mkF m 155 #[.val (.ref ch), .val (.int xa), .val (.int xe), .val (.int ((ff A) &&& (255 : Int32))), .val (.int (4 : Int32)), .val (.int lo), .val (.int hi), .unset, .unset] [(.int (0 : Int32))])) (fun tgt k => ?_) ?_
            · show Steps p.tables e below (s₁.setTop (mkF m 151 #[.val (.ref ch), .val (.int xa), .val (.int xe), .val (.int ((ff A) &&& (255 : Int32))), .val (.int (4 : Int32)), .val (.int lo), .val (.int hi), .unset, .unset] [(.int (xe - xa)), (.int (4 : Int32))])) tgt
              refine XS.icmpNo X0.here hx rfl (hb hby d1_151) rfl (tlt hc151).2.2.2 ?_
              show Steps p.tables e below (s₁.setTop (mkF m 154 #[.val (.ref ch), .val (.int xa), .val (.int xe), .val (.int ((ff A) &&& (255 : Int32))), .val (.int (4 : Int32)), .val (.int lo), .val (.int hi), .unset, .unset] [])) tgt
              refine XS.iconst X0.here hx rfl (hb hby d1_154) ?_
              exact k
            refine own_retI X0 hx hlk Bd.returns (hb hby d1_155) ?_ (by decide) (by decide)
            show Q1 Z ch xa xe ff A h0 n0 (some (.int (0 : Int32))) s₁.heap _
            rw [e0]
            refine ⟨?_, N0, rfl⟩
            exact congrArg (fun q => some (Value.int q)) (by unfold own_ln; rw [if_neg hc22, if_neg hc35, if_neg hc48, if_pos hc95, ← hlo, ← hhi, if_pos hc151])
          · skip
            refine own_st (V := s₁.setTop (mkF m 171 #[.val (.ref ch), .val (.int xa), .val (.int xe), .val (.int ((ff A) &&& (255 : Int32))), .val (.int (4 : Int32)), .val (.int lo), .val (.int hi), .val (.int ((ff (A + 1)) &&& (255 : Int32))), .unset] [(.int lo), (.int ((ff (A + 1)) &&& (255 : Int32)))])) (fun tgt k => ?_) ?_
            · show Steps p.tables e below (s₁.setTop (mkF m 151 #[.val (.ref ch), .val (.int xa), .val (.int xe), .val (.int ((ff A) &&& (255 : Int32))), .val (.int (4 : Int32)), .val (.int lo), .val (.int hi), .unset, .unset] [(.int (xe - xa)), (.int (4 : Int32))])) tgt
              refine XS.icmpYes X0.here hx rfl (pc0 := 151) (pc' := 156) rfl (hb hby d1_151) rfl (flt hc151).2.2.2 (by decide) (by decide) ?_
              show Steps p.tables e below (s₁.setTop (mkF m 156 #[.val (.ref ch), .val (.int xa), .val (.int xe), .val (.int ((ff A) &&& (255 : Int32))), .val (.int (4 : Int32)), .val (.int lo), .val (.int hi), .unset, .unset] [])) tgt
              refine XS.aloadN X0.here hx rfl (hb hby d1_156) rfl rfl ?_
              show Steps p.tables e below (s₁.setTop (mkF m 157 #[.val (.ref ch), .val (.int xa), .val (.int xe), .val (.int ((ff A) &&& (255 : Int32))), .val (.int (4 : Int32)), .val (.int lo), .val (.int hi), .unset, .unset] [(.ref ch)])) tgt
              refine XS.iloadN X0.here hx rfl (hb hby d1_157) rfl ?_
              show Steps p.tables e below (s₁.setTop (mkF m 158 #[.val (.ref ch), .val (.int xa), .val (.int xe), .val (.int ((ff A) &&& (255 : Int32))), .val (.int (4 : Int32)), .val (.int lo), .val (.int hi), .unset, .unset] [(.int xa), (.ref ch)])) tgt
              refine XS.iconst X0.here hx rfl (hb hby d1_158) ?_
              show Steps p.tables e below (s₁.setTop (mkF m 159 #[.val (.ref ch), .val (.int xa), .val (.int xe), .val (.int ((ff A) &&& (255 : Int32))), .val (.int (4 : Int32)), .val (.int lo), .val (.int hi), .unset, .unset] [(.int (1 : Int32)), (.int xa), (.ref ch)])) tgt
              refine XS.iadd X0.here hx rfl (hb hby d1_159) rfl ?_
              show Steps p.tables e below (s₁.setTop (mkF m 160 #[.val (.ref ch), .val (.int xa), .val (.int xe), .val (.int ((ff A) &&& (255 : Int32))), .val (.int (4 : Int32)), .val (.int lo), .val (.int hi), .unset, .unset] [(.int (xa + (1 : Int32))), (.ref ch)])) tgt
              refine own_baload X0 hx hZ e0 A1 (j := (xa + (1 : Int32))) (k := (A + 1)) a1 (by omega) (g := (mkF m 160 #[.val (.ref ch), .val (.int xa), .val (.int xe), .val (.int ((ff A) &&& (255 : Int32))), .val (.int (4 : Int32)), .val (.int lo), .val (.int hi), .unset, .unset] [(.int (xa + (1 : Int32))), (.ref ch)])) rfl rfl (hb hby d1_160) ?_
              show Steps p.tables e below (s₁.setTop (mkF m 161 #[.val (.ref ch), .val (.int xa), .val (.int xe), .val (.int ((ff A) &&& (255 : Int32))), .val (.int (4 : Int32)), .val (.int lo), .val (.int hi), .unset, .unset] [(.int (ff (A + 1)))])) tgt
              refine XS.sipush X0.here hx rfl (hb hby d1_161) ?_
              show Steps p.tables e below (s₁.setTop (mkF m 164 #[.val (.ref ch), .val (.int xa), .val (.int xe), .val (.int ((ff A) &&& (255 : Int32))), .val (.int (4 : Int32)), .val (.int lo), .val (.int hi), .unset, .unset] [(.int (255 : Int32)), (.int (ff (A + 1)))])) tgt
              refine XS.iand X0.here hx rfl (hb hby d1_164) rfl ?_
              show Steps p.tables e below (s₁.setTop (mkF m 165 #[.val (.ref ch), .val (.int xa), .val (.int xe), .val (.int ((ff A) &&& (255 : Int32))), .val (.int (4 : Int32)), .val (.int lo), .val (.int hi), .unset, .unset] [(.int ((ff (A + 1)) &&& (255 : Int32)))])) tgt
              refine XS.istore X0.here hx rfl (hb hby d1_165) rfl (l' := #[.val (.ref ch), .val (.int xa), .val (.int xe), .val (.int ((ff A) &&& (255 : Int32))), .val (.int (4 : Int32)), .val (.int lo), .val (.int hi), .val (.int ((ff (A + 1)) &&& (255 : Int32))), .unset]) rfl ?_
              show Steps p.tables e below (s₁.setTop (mkF m 167 #[.val (.ref ch), .val (.int xa), .val (.int xe), .val (.int ((ff A) &&& (255 : Int32))), .val (.int (4 : Int32)), .val (.int lo), .val (.int hi), .val (.int ((ff (A + 1)) &&& (255 : Int32))), .unset] [])) tgt
              refine XS.iload X0.here hx rfl (hb hby d1_167) rfl ?_
              show Steps p.tables e below (s₁.setTop (mkF m 169 #[.val (.ref ch), .val (.int xa), .val (.int xe), .val (.int ((ff A) &&& (255 : Int32))), .val (.int (4 : Int32)), .val (.int lo), .val (.int hi), .val (.int ((ff (A + 1)) &&& (255 : Int32))), .unset] [(.int ((ff (A + 1)) &&& (255 : Int32)))])) tgt
              refine XS.iload X0.here hx rfl (hb hby d1_169) rfl ?_
              exact k
            by_cases hc171 : ((ff (A + 1)) &&& (255 : Int32)) < lo
            · skip
              refine own_st (V := s₁.setTop (mkF m 182 #[.val (.ref ch), .val (.int xa), .val (.int xe), .val (.int ((ff A) &&& (255 : Int32))), .val (.int (4 : Int32)), .val (.int lo), .val (.int hi), .val (.int ((ff (A + 1)) &&& (255 : Int32))), .unset] [(.int (0 : Int32))])) (fun tgt k => ?_) ?_
              · show Steps p.tables e below (s₁.setTop (mkF m 171 #[.val (.ref ch), .val (.int xa), .val (.int xe), .val (.int ((ff A) &&& (255 : Int32))), .val (.int (4 : Int32)), .val (.int lo), .val (.int hi), .val (.int ((ff (A + 1)) &&& (255 : Int32))), .unset] [(.int lo), (.int ((ff (A + 1)) &&& (255 : Int32)))])) tgt
                refine XS.icmpYes X0.here hx rfl (pc0 := 171) (pc' := 181) rfl (hb hby d1_171) rfl (tlt hc171).1 (by decide) (by decide) ?_
                show Steps p.tables e below (s₁.setTop (mkF m 181 #[.val (.ref ch), .val (.int xa), .val (.int xe), .val (.int ((ff A) &&& (255 : Int32))), .val (.int (4 : Int32)), .val (.int lo), .val (.int hi), .val (.int ((ff (A + 1)) &&& (255 : Int32))), .unset] [])) tgt
                refine XS.iconst X0.here hx rfl (hb hby d1_181) ?_
                exact k
              refine own_retI X0 hx hlk Bd.returns (hb hby d1_182) ?_ (by decide) (by decide)
              show Q1 Z ch xa xe ff A h0 n0 (some (.int (0 : Int32))) s₁.heap _
              rw [e0]
              refine ⟨?_, N0, rfl⟩
              exact congrArg (fun q => some (Value.int q)) (by unfold own_ln; rw [if_neg hc22, if_neg hc35, if_neg hc48, if_pos hc95, ← hlo, ← hhi, if_neg hc151, if_pos hc171])
            · skip
              refine own_st (V := s₁.setTop (mkF m 178 #[.val (.ref ch), .val (.int xa), .val (.int xe), .val (.int ((ff A) &&& (255 : Int32))), .val (.int (4 : Int32)), .val (.int lo), .val (.int hi), .val (.int ((ff (A + 1)) &&& (255 : Int32))), .unset] [(.int hi), (.int ((ff (A + 1)) &&& (255 : Int32)))])) (fun tgt k => ?_) ?_
              · show Steps p.tables e below (s₁.setTop (mkF m 171 #[.val (.ref ch), .val (.int xa), .val (.int xe), .val (.int ((ff A) &&& (255 : Int32))), .val (.int (4 : Int32)), .val (.int lo), .val (.int hi), .val (.int ((ff (A + 1)) &&& (255 : Int32))), .unset] [(.int lo), (.int ((ff (A + 1)) &&& (255 : Int32)))])) tgt
                refine XS.icmpNo X0.here hx rfl (hb hby d1_171) rfl (flt hc171).1 ?_
                show Steps p.tables e below (s₁.setTop (mkF m 174 #[.val (.ref ch), .val (.int xa), .val (.int xe), .val (.int ((ff A) &&& (255 : Int32))), .val (.int (4 : Int32)), .val (.int lo), .val (.int hi), .val (.int ((ff (A + 1)) &&& (255 : Int32))), .unset] [])) tgt
                refine XS.iload X0.here hx rfl (hb hby d1_174) rfl ?_
                show Steps p.tables e below (s₁.setTop (mkF m 176 #[.val (.ref ch), .val (.int xa), .val (.int xe), .val (.int ((ff A) &&& (255 : Int32))), .val (.int (4 : Int32)), .val (.int lo), .val (.int hi), .val (.int ((ff (A + 1)) &&& (255 : Int32))), .unset] [(.int ((ff (A + 1)) &&& (255 : Int32)))])) tgt
                refine XS.iload X0.here hx rfl (hb hby d1_176) rfl ?_
                exact k
              by_cases hc178 : hi < ((ff (A + 1)) &&& (255 : Int32))
              · skip
                refine own_st (V := s₁.setTop (mkF m 182 #[.val (.ref ch), .val (.int xa), .val (.int xe), .val (.int ((ff A) &&& (255 : Int32))), .val (.int (4 : Int32)), .val (.int lo), .val (.int hi), .val (.int ((ff (A + 1)) &&& (255 : Int32))), .unset] [(.int (0 : Int32))])) (fun tgt k => ?_) ?_
                · show Steps p.tables e below (s₁.setTop (mkF m 178 #[.val (.ref ch), .val (.int xa), .val (.int xe), .val (.int ((ff A) &&& (255 : Int32))), .val (.int (4 : Int32)), .val (.int lo), .val (.int hi), .val (.int ((ff (A + 1)) &&& (255 : Int32))), .unset] [(.int hi), (.int ((ff (A + 1)) &&& (255 : Int32)))])) tgt
                  refine XS.icmpNo X0.here hx rfl (hb hby d1_178) rfl (tlt hc178).2.2.2 ?_
                  show Steps p.tables e below (s₁.setTop (mkF m 181 #[.val (.ref ch), .val (.int xa), .val (.int xe), .val (.int ((ff A) &&& (255 : Int32))), .val (.int (4 : Int32)), .val (.int lo), .val (.int hi), .val (.int ((ff (A + 1)) &&& (255 : Int32))), .unset] [])) tgt
                  refine XS.iconst X0.here hx rfl (hb hby d1_181) ?_
                  exact k
                refine own_retI X0 hx hlk Bd.returns (hb hby d1_182) ?_ (by decide) (by decide)
                show Q1 Z ch xa xe ff A h0 n0 (some (.int (0 : Int32))) s₁.heap _
                rw [e0]
                refine ⟨?_, N0, rfl⟩
                exact congrArg (fun q => some (Value.int q)) (by unfold own_ln; rw [if_neg hc22, if_neg hc35, if_neg hc48, if_pos hc95, ← hlo, ← hhi, if_neg hc151, if_neg hc171, if_pos hc178])
              · skip
                refine own_st (V := s₁.setTop (mkF m 208 #[.val (.ref ch), .val (.int xa), .val (.int xe), .val (.int ((ff A) &&& (255 : Int32))), .val (.int (4 : Int32)), .val (.int lo), .val (.int hi), .val (.int ((ff (A + 1)) &&& (255 : Int32))), .val (.int (xa + (2 : Int32)))] [(.int (128 : Int32)), (.int ((ff (A + 2)) &&& (192 : Int32)))])) (fun tgt k => ?_) ?_
                · show Steps p.tables e below (s₁.setTop (mkF m 178 #[.val (.ref ch), .val (.int xa), .val (.int xe), .val (.int ((ff A) &&& (255 : Int32))), .val (.int (4 : Int32)), .val (.int lo), .val (.int hi), .val (.int ((ff (A + 1)) &&& (255 : Int32))), .unset] [(.int hi), (.int ((ff (A + 1)) &&& (255 : Int32)))])) tgt
                  refine XS.icmpYes X0.here hx rfl (pc0 := 178) (pc' := 183) rfl (hb hby d1_178) rfl (flt hc178).2.2.2 (by decide) (by decide) ?_
                  show Steps p.tables e below (s₁.setTop (mkF m 183 #[.val (.ref ch), .val (.int xa), .val (.int xe), .val (.int ((ff A) &&& (255 : Int32))), .val (.int (4 : Int32)), .val (.int lo), .val (.int hi), .val (.int ((ff (A + 1)) &&& (255 : Int32))), .unset] [])) tgt
                  refine XS.iloadN X0.here hx rfl (hb hby d1_183) rfl ?_
                  show Steps p.tables e below (s₁.setTop (mkF m 184 #[.val (.ref ch), .val (.int xa), .val (.int xe), .val (.int ((ff A) &&& (255 : Int32))), .val (.int (4 : Int32)), .val (.int lo), .val (.int hi), .val (.int ((ff (A + 1)) &&& (255 : Int32))), .unset] [(.int xa)])) tgt
                  refine XS.iconst X0.here hx rfl (hb hby d1_184) ?_
                  show Steps p.tables e below (s₁.setTop (mkF m 185 #[.val (.ref ch), .val (.int xa), .val (.int xe), .val (.int ((ff A) &&& (255 : Int32))), .val (.int (4 : Int32)), .val (.int lo), .val (.int hi), .val (.int ((ff (A + 1)) &&& (255 : Int32))), .unset] [(.int (2 : Int32)), (.int xa)])) tgt
                  refine XS.iadd X0.here hx rfl (hb hby d1_185) rfl ?_
                  show Steps p.tables e below (s₁.setTop (mkF m 186 #[.val (.ref ch), .val (.int xa), .val (.int xe), .val (.int ((ff A) &&& (255 : Int32))), .val (.int (4 : Int32)), .val (.int lo), .val (.int hi), .val (.int ((ff (A + 1)) &&& (255 : Int32))), .unset] [(.int (xa + (2 : Int32)))])) tgt
                  refine XS.istore X0.here hx rfl (hb hby d1_186) rfl (l' := #[.val (.ref ch), .val (.int xa), .val (.int xe), .val (.int ((ff A) &&& (255 : Int32))), .val (.int (4 : Int32)), .val (.int lo), .val (.int hi), .val (.int ((ff (A + 1)) &&& (255 : Int32))), .val (.int (xa + (2 : Int32)))]) rfl ?_
                  show Steps p.tables e below (s₁.setTop (mkF m 188 #[.val (.ref ch), .val (.int xa), .val (.int xe), .val (.int ((ff A) &&& (255 : Int32))), .val (.int (4 : Int32)), .val (.int lo), .val (.int hi), .val (.int ((ff (A + 1)) &&& (255 : Int32))), .val (.int (xa + (2 : Int32)))] [])) tgt
                  refine XS.iload X0.here hx rfl (hb hby d1_188) rfl ?_
                  show Steps p.tables e below (s₁.setTop (mkF m 190 #[.val (.ref ch), .val (.int xa), .val (.int xe), .val (.int ((ff A) &&& (255 : Int32))), .val (.int (4 : Int32)), .val (.int lo), .val (.int hi), .val (.int ((ff (A + 1)) &&& (255 : Int32))), .val (.int (xa + (2 : Int32)))] [(.int (xa + (2 : Int32)))])) tgt
                  refine XS.iloadN X0.here hx rfl (hb hby d1_190) rfl ?_
                  show Steps p.tables e below (s₁.setTop (mkF m 191 #[.val (.ref ch), .val (.int xa), .val (.int xe), .val (.int ((ff A) &&& (255 : Int32))), .val (.int (4 : Int32)), .val (.int lo), .val (.int hi), .val (.int ((ff (A + 1)) &&& (255 : Int32))), .val (.int (xa + (2 : Int32)))] [(.int xa), (.int (xa + (2 : Int32)))])) tgt
                  refine XS.iload X0.here hx rfl (hb hby d1_191) rfl ?_
                  show Steps p.tables e below (s₁.setTop (mkF m 193 #[.val (.ref ch), .val (.int xa), .val (.int xe), .val (.int ((ff A) &&& (255 : Int32))), .val (.int (4 : Int32)), .val (.int lo), .val (.int hi), .val (.int ((ff (A + 1)) &&& (255 : Int32))), .val (.int (xa + (2 : Int32)))] [(.int (4 : Int32)), (.int xa), (.int (xa + (2 : Int32)))])) tgt
                  refine XS.iadd X0.here hx rfl (hb hby d1_193) rfl ?_
                  show Steps p.tables e below (s₁.setTop (mkF m 194 #[.val (.ref ch), .val (.int xa), .val (.int xe), .val (.int ((ff A) &&& (255 : Int32))), .val (.int (4 : Int32)), .val (.int lo), .val (.int hi), .val (.int ((ff (A + 1)) &&& (255 : Int32))), .val (.int (xa + (2 : Int32)))] [(.int (xa + (4 : Int32))), (.int (xa + (2 : Int32)))])) tgt
                  refine XS.icmpNo X0.here hx rfl (hb hby d1_194) rfl (tlt (by rw [own_ilt]; omega)).2.1 ?_
                  show Steps p.tables e below (s₁.setTop (mkF m 197 #[.val (.ref ch), .val (.int xa), .val (.int xe), .val (.int ((ff A) &&& (255 : Int32))), .val (.int (4 : Int32)), .val (.int lo), .val (.int hi), .val (.int ((ff (A + 1)) &&& (255 : Int32))), .val (.int (xa + (2 : Int32)))] [])) tgt
                  refine XS.aloadN X0.here hx rfl (hb hby d1_197) rfl rfl ?_
                  show Steps p.tables e below (s₁.setTop (mkF m 198 #[.val (.ref ch), .val (.int xa), .val (.int xe), .val (.int ((ff A) &&& (255 : Int32))), .val (.int (4 : Int32)), .val (.int lo), .val (.int hi), .val (.int ((ff (A + 1)) &&& (255 : Int32))), .val (.int (xa + (2 : Int32)))] [(.ref ch)])) tgt
                  refine XS.iload X0.here hx rfl (hb hby d1_198) rfl ?_
                  show Steps p.tables e below (s₁.setTop (mkF m 200 #[.val (.ref ch), .val (.int xa), .val (.int xe), .val (.int ((ff A) &&& (255 : Int32))), .val (.int (4 : Int32)), .val (.int lo), .val (.int hi), .val (.int ((ff (A + 1)) &&& (255 : Int32))), .val (.int (xa + (2 : Int32)))] [(.int (xa + (2 : Int32))), (.ref ch)])) tgt
                  refine own_baload X0 hx hZ e0 A1 (j := (xa + (2 : Int32))) (k := (A + 2)) a2 (by omega) (g := (mkF m 200 #[.val (.ref ch), .val (.int xa), .val (.int xe), .val (.int ((ff A) &&& (255 : Int32))), .val (.int (4 : Int32)), .val (.int lo), .val (.int hi), .val (.int ((ff (A + 1)) &&& (255 : Int32))), .val (.int (xa + (2 : Int32)))] [(.int (xa + (2 : Int32))), (.ref ch)])) rfl rfl (hb hby d1_200) ?_
                  show Steps p.tables e below (s₁.setTop (mkF m 201 #[.val (.ref ch), .val (.int xa), .val (.int xe), .val (.int ((ff A) &&& (255 : Int32))), .val (.int (4 : Int32)), .val (.int lo), .val (.int hi), .val (.int ((ff (A + 1)) &&& (255 : Int32))), .val (.int (xa + (2 : Int32)))] [(.int (ff (A + 2)))])) tgt
                  refine XS.sipush X0.here hx rfl (hb hby d1_201) ?_
                  show Steps p.tables e below (s₁.setTop (mkF m 204 #[.val (.ref ch), .val (.int xa), .val (.int xe), .val (.int ((ff A) &&& (255 : Int32))), .val (.int (4 : Int32)), .val (.int lo), .val (.int hi), .val (.int ((ff (A + 1)) &&& (255 : Int32))), .val (.int (xa + (2 : Int32)))] [(.int (192 : Int32)), (.int (ff (A + 2)))])) tgt
                  refine XS.iand X0.here hx rfl (hb hby d1_204) rfl ?_
                  show Steps p.tables e below (s₁.setTop (mkF m 205 #[.val (.ref ch), .val (.int xa), .val (.int xe), .val (.int ((ff A) &&& (255 : Int32))), .val (.int (4 : Int32)), .val (.int lo), .val (.int hi), .val (.int ((ff (A + 1)) &&& (255 : Int32))), .val (.int (xa + (2 : Int32)))] [(.int ((ff (A + 2)) &&& (192 : Int32)))])) tgt
                  refine XS.sipush X0.here hx rfl (hb hby d1_205) ?_
                  exact k
                by_cases hc208 : ((ff (A + 2)) &&& (192 : Int32)) = (128 : Int32)
                · skip
                  refine own_st (V := s₁.setTop (mkF m 208 #[.val (.ref ch), .val (.int xa), .val (.int xe), .val (.int ((ff A) &&& (255 : Int32))), .val (.int (4 : Int32)), .val (.int lo), .val (.int hi), .val (.int ((ff (A + 1)) &&& (255 : Int32))), .val (.int ((xa + (2 : Int32)) + (1 : Int32)))] [(.int (128 : Int32)), (.int ((ff (A + 3)) &&& (192 : Int32)))])) (fun tgt k => ?_) ?_
                  · show Steps p.tables e below (s₁.setTop (mkF m 208 #[.val (.ref ch), .val (.int xa), .val (.int xe), .val (.int ((ff A) &&& (255 : Int32))), .val (.int (4 : Int32)), .val (.int lo), .val (.int hi), .val (.int ((ff (A + 1)) &&& (255 : Int32))), .val (.int (xa + (2 : Int32)))] [(.int (128 : Int32)), (.int ((ff (A + 2)) &&& (192 : Int32)))])) tgt
                    refine XS.icmpYes X0.here hx rfl (pc0 := 208) (pc' := 213) rfl (hb hby d1_208) rfl (teq hc208).1 (by decide) (by decide) ?_
                    show Steps p.tables e below (s₁.setTop (mkF m 213 #[.val (.ref ch), .val (.int xa), .val (.int xe), .val (.int ((ff A) &&& (255 : Int32))), .val (.int (4 : Int32)), .val (.int lo), .val (.int hi), .val (.int ((ff (A + 1)) &&& (255 : Int32))), .val (.int (xa + (2 : Int32)))] [])) tgt
                    refine XS.iinc X0.here hx rfl (hb hby d1_213) rfl (l' := #[.val (.ref ch), .val (.int xa), .val (.int xe), .val (.int ((ff A) &&& (255 : Int32))), .val (.int (4 : Int32)), .val (.int lo), .val (.int hi), .val (.int ((ff (A + 1)) &&& (255 : Int32))), .val (.int ((xa + (2 : Int32)) + (1 : Int32)))]) rfl ?_
                    show Steps p.tables e below (s₁.setTop (mkF m 216 #[.val (.ref ch), .val (.int xa), .val (.int xe), .val (.int ((ff A) &&& (255 : Int32))), .val (.int (4 : Int32)), .val (.int lo), .val (.int hi), .val (.int ((ff (A + 1)) &&& (255 : Int32))), .val (.int ((xa + (2 : Int32)) + (1 : Int32)))] [])) tgt
                    refine XS.goto X0.here hx rfl (pc0 := 216) (pc' := 188) rfl (hb hby d1_216) (by decide) (by decide) ?_
                    show Steps p.tables e below (s₁.setTop (mkF m 188 #[.val (.ref ch), .val (.int xa), .val (.int xe), .val (.int ((ff A) &&& (255 : Int32))), .val (.int (4 : Int32)), .val (.int lo), .val (.int hi), .val (.int ((ff (A + 1)) &&& (255 : Int32))), .val (.int ((xa + (2 : Int32)) + (1 : Int32)))] [])) tgt
                    refine XS.iload X0.here hx rfl (hb hby d1_188) rfl ?_
                    show Steps p.tables e below (s₁.setTop (mkF m 190 #[.val (.ref ch), .val (.int xa), .val (.int xe), .val (.int ((ff A) &&& (255 : Int32))), .val (.int (4 : Int32)), .val (.int lo), .val (.int hi), .val (.int ((ff (A + 1)) &&& (255 : Int32))), .val (.int ((xa + (2 : Int32)) + (1 : Int32)))] [(.int ((xa + (2 : Int32)) + (1 : Int32)))])) tgt
                    refine XS.iloadN X0.here hx rfl (hb hby d1_190) rfl ?_
                    show Steps p.tables e below (s₁.setTop (mkF m 191 #[.val (.ref ch), .val (.int xa), .val (.int xe), .val (.int ((ff A) &&& (255 : Int32))), .val (.int (4 : Int32)), .val (.int lo), .val (.int hi), .val (.int ((ff (A + 1)) &&& (255 : Int32))), .val (.int ((xa + (2 : Int32)) + (1 : Int32)))] [(.int xa), (.int ((xa + (2 : Int32)) + (1 : Int32)))])) tgt
                    refine XS.iload X0.here hx rfl (hb hby d1_191) rfl ?_
                    show Steps p.tables e below (s₁.setTop (mkF m 193 #[.val (.ref ch), .val (.int xa), .val (.int xe), .val (.int ((ff A) &&& (255 : Int32))), .val (.int (4 : Int32)), .val (.int lo), .val (.int hi), .val (.int ((ff (A + 1)) &&& (255 : Int32))), .val (.int ((xa + (2 : Int32)) + (1 : Int32)))] [(.int (4 : Int32)), (.int xa), (.int ((xa + (2 : Int32)) + (1 : Int32)))])) tgt
                    refine XS.iadd X0.here hx rfl (hb hby d1_193) rfl ?_
                    show Steps p.tables e below (s₁.setTop (mkF m 194 #[.val (.ref ch), .val (.int xa), .val (.int xe), .val (.int ((ff A) &&& (255 : Int32))), .val (.int (4 : Int32)), .val (.int lo), .val (.int hi), .val (.int ((ff (A + 1)) &&& (255 : Int32))), .val (.int ((xa + (2 : Int32)) + (1 : Int32)))] [(.int (xa + (4 : Int32))), (.int ((xa + (2 : Int32)) + (1 : Int32)))])) tgt
                    refine XS.icmpNo X0.here hx rfl (hb hby d1_194) rfl (tlt (by rw [own_ilt]; omega)).2.1 ?_
                    show Steps p.tables e below (s₁.setTop (mkF m 197 #[.val (.ref ch), .val (.int xa), .val (.int xe), .val (.int ((ff A) &&& (255 : Int32))), .val (.int (4 : Int32)), .val (.int lo), .val (.int hi), .val (.int ((ff (A + 1)) &&& (255 : Int32))), .val (.int ((xa + (2 : Int32)) + (1 : Int32)))] [])) tgt
                    refine XS.aloadN X0.here hx rfl (hb hby d1_197) rfl rfl ?_
                    show Steps p.tables e below (s₁.setTop (mkF m 198 #[.val (.ref ch), .val (.int xa), .val (.int xe), .val (.int ((ff A) &&& (255 : Int32))), .val (.int (4 : Int32)), .val (.int lo), .val (.int hi), .val (.int ((ff (A + 1)) &&& (255 : Int32))), .val (.int ((xa + (2 : Int32)) + (1 : Int32)))] [(.ref ch)])) tgt
                    refine XS.iload X0.here hx rfl (hb hby d1_198) rfl ?_
                    show Steps p.tables e below (s₁.setTop (mkF m 200 #[.val (.ref ch), .val (.int xa), .val (.int xe), .val (.int ((ff A) &&& (255 : Int32))), .val (.int (4 : Int32)), .val (.int lo), .val (.int hi), .val (.int ((ff (A + 1)) &&& (255 : Int32))), .val (.int ((xa + (2 : Int32)) + (1 : Int32)))] [(.int ((xa + (2 : Int32)) + (1 : Int32))), (.ref ch)])) tgt
                    refine own_baload X0 hx hZ e0 A1 (j := ((xa + (2 : Int32)) + (1 : Int32))) (k := (A + 3)) b3 (by omega) (g := (mkF m 200 #[.val (.ref ch), .val (.int xa), .val (.int xe), .val (.int ((ff A) &&& (255 : Int32))), .val (.int (4 : Int32)), .val (.int lo), .val (.int hi), .val (.int ((ff (A + 1)) &&& (255 : Int32))), .val (.int ((xa + (2 : Int32)) + (1 : Int32)))] [(.int ((xa + (2 : Int32)) + (1 : Int32))), (.ref ch)])) rfl rfl (hb hby d1_200) ?_
                    show Steps p.tables e below (s₁.setTop (mkF m 201 #[.val (.ref ch), .val (.int xa), .val (.int xe), .val (.int ((ff A) &&& (255 : Int32))), .val (.int (4 : Int32)), .val (.int lo), .val (.int hi), .val (.int ((ff (A + 1)) &&& (255 : Int32))), .val (.int ((xa + (2 : Int32)) + (1 : Int32)))] [(.int (ff (A + 3)))])) tgt
                    refine XS.sipush X0.here hx rfl (hb hby d1_201) ?_
                    show Steps p.tables e below (s₁.setTop (mkF m 204 #[.val (.ref ch), .val (.int xa), .val (.int xe), .val (.int ((ff A) &&& (255 : Int32))), .val (.int (4 : Int32)), .val (.int lo), .val (.int hi), .val (.int ((ff (A + 1)) &&& (255 : Int32))), .val (.int ((xa + (2 : Int32)) + (1 : Int32)))] [(.int (192 : Int32)), (.int (ff (A + 3)))])) tgt
                    refine XS.iand X0.here hx rfl (hb hby d1_204) rfl ?_
                    show Steps p.tables e below (s₁.setTop (mkF m 205 #[.val (.ref ch), .val (.int xa), .val (.int xe), .val (.int ((ff A) &&& (255 : Int32))), .val (.int (4 : Int32)), .val (.int lo), .val (.int hi), .val (.int ((ff (A + 1)) &&& (255 : Int32))), .val (.int ((xa + (2 : Int32)) + (1 : Int32)))] [(.int ((ff (A + 3)) &&& (192 : Int32)))])) tgt
                    refine XS.sipush X0.here hx rfl (hb hby d1_205) ?_
                    exact k
                  by_cases hc208_2 : ((ff (A + 3)) &&& (192 : Int32)) = (128 : Int32)
                  · skip
                    refine own_st (V := s₁.setTop (mkF m 221 #[.val (.ref ch), .val (.int xa), .val (.int xe), .val (.int ((ff A) &&& (255 : Int32))), .val (.int (4 : Int32)), .val (.int lo), .val (.int hi), .val (.int ((ff (A + 1)) &&& (255 : Int32))), .val (.int (((xa + (2 : Int32)) + (1 : Int32)) + (1 : Int32)))] [(.int (4 : Int32))])) (fun tgt k => ?_) ?_
                    · show Steps p.tables e below (s₁.setTop (mkF m 208 #[.val (.ref ch), .val (.int xa), .val (.int xe), .val (.int ((ff A) &&& (255 : Int32))), .val (.int (4 : Int32)), .val (.int lo), .val (.int hi), .val (.int ((ff (A + 1)) &&& (255 : Int32))), .val (.int ((xa + (2 : Int32)) + (1 : Int32)))] [(.int (128 : Int32)), (.int ((ff (A + 3)) &&& (192 : Int32)))])) tgt
                      refine XS.icmpYes X0.here hx rfl (pc0 := 208) (pc' := 213) rfl (hb hby d1_208) rfl (teq hc208_2).1 (by decide) (by decide) ?_
                      show Steps p.tables e below (s₁.setTop (mkF m 213 #[.val (.ref ch), .val (.int xa), .val (.int xe), .val (.int ((ff A) &&& (255 : Int32))), .val (.int (4 : Int32)), .val (.int lo), .val (.int hi), .val (.int ((ff (A + 1)) &&& (255 : Int32))), .val (.int ((xa + (2 : Int32)) + (1 : Int32)))] [])) tgt
                      refine XS.iinc X0.here hx rfl (hb hby d1_213) rfl (l' := #[.val (.ref ch), .val (.int xa), .val (.int xe), .val (.int ((ff A) &&& (255 : Int32))), .val (.int (4 : Int32)), .val (.int lo), .val (.int hi), .val (.int ((ff (A + 1)) &&& (255 : Int32))), .val (.int (((xa + (2 : Int32)) + (1 : Int32)) + (1 : Int32)))]) rfl ?_
                      show Steps p.tables e below (s₁.setTop (mkF m 216 #[.val (.ref ch), .val (.int xa), .val (.int xe), .val (.int ((ff A) &&& (255 : Int32))), .val (.int (4 : Int32)), .val (.int lo), .val (.int hi), .val (.int ((ff (A + 1)) &&& (255 : Int32))), .val (.int (((xa + (2 : Int32)) + (1 : Int32)) + (1 : Int32)))] [])) tgt
                      refine XS.goto X0.here hx rfl (pc0 := 216) (pc' := 188) rfl (hb hby d1_216) (by decide) (by decide) ?_
                      show Steps p.tables e below (s₁.setTop (mkF m 188 #[.val (.ref ch), .val (.int xa), .val (.int xe), .val (.int ((ff A) &&& (255 : Int32))), .val (.int (4 : Int32)), .val (.int lo), .val (.int hi), .val (.int ((ff (A + 1)) &&& (255 : Int32))), .val (.int (((xa + (2 : Int32)) + (1 : Int32)) + (1 : Int32)))] [])) tgt
                      refine XS.iload X0.here hx rfl (hb hby d1_188) rfl ?_
                      show Steps p.tables e below (s₁.setTop (mkF m 190 #[.val (.ref ch), .val (.int xa), .val (.int xe), .val (.int ((ff A) &&& (255 : Int32))), .val (.int (4 : Int32)), .val (.int lo), .val (.int hi), .val (.int ((ff (A + 1)) &&& (255 : Int32))), .val (.int (((xa + (2 : Int32)) + (1 : Int32)) + (1 : Int32)))] [(.int (((xa + (2 : Int32)) + (1 : Int32)) + (1 : Int32)))])) tgt
                      refine XS.iloadN X0.here hx rfl (hb hby d1_190) rfl ?_
                      show Steps p.tables e below (s₁.setTop (mkF m 191 #[.val (.ref ch), .val (.int xa), .val (.int xe), .val (.int ((ff A) &&& (255 : Int32))), .val (.int (4 : Int32)), .val (.int lo), .val (.int hi), .val (.int ((ff (A + 1)) &&& (255 : Int32))), .val (.int (((xa + (2 : Int32)) + (1 : Int32)) + (1 : Int32)))] [(.int xa), (.int (((xa + (2 : Int32)) + (1 : Int32)) + (1 : Int32)))])) tgt
                      refine XS.iload X0.here hx rfl (hb hby d1_191) rfl ?_
                      show Steps p.tables e below (s₁.setTop (mkF m 193 #[.val (.ref ch), .val (.int xa), .val (.int xe), .val (.int ((ff A) &&& (255 : Int32))), .val (.int (4 : Int32)), .val (.int lo), .val (.int hi), .val (.int ((ff (A + 1)) &&& (255 : Int32))), .val (.int (((xa + (2 : Int32)) + (1 : Int32)) + (1 : Int32)))] [(.int (4 : Int32)), (.int xa), (.int (((xa + (2 : Int32)) + (1 : Int32)) + (1 : Int32)))])) tgt
                      refine XS.iadd X0.here hx rfl (hb hby d1_193) rfl ?_
                      show Steps p.tables e below (s₁.setTop (mkF m 194 #[.val (.ref ch), .val (.int xa), .val (.int xe), .val (.int ((ff A) &&& (255 : Int32))), .val (.int (4 : Int32)), .val (.int lo), .val (.int hi), .val (.int ((ff (A + 1)) &&& (255 : Int32))), .val (.int (((xa + (2 : Int32)) + (1 : Int32)) + (1 : Int32)))] [(.int (xa + (4 : Int32))), (.int (((xa + (2 : Int32)) + (1 : Int32)) + (1 : Int32)))])) tgt
                      refine XS.icmpYes X0.here hx rfl (pc0 := 194) (pc' := 219) rfl (hb hby d1_194) rfl (flt (by rw [own_ilt]; omega)).2.1 (by decide) (by decide) ?_
                      show Steps p.tables e below (s₁.setTop (mkF m 219 #[.val (.ref ch), .val (.int xa), .val (.int xe), .val (.int ((ff A) &&& (255 : Int32))), .val (.int (4 : Int32)), .val (.int lo), .val (.int hi), .val (.int ((ff (A + 1)) &&& (255 : Int32))), .val (.int (((xa + (2 : Int32)) + (1 : Int32)) + (1 : Int32)))] [])) tgt
                      refine XS.iload X0.here hx rfl (hb hby d1_219) rfl ?_
                      exact k
                    refine own_retI X0 hx hlk Bd.returns (hb hby d1_221) ?_ (by decide) (by decide)
                    show Q1 Z ch xa xe ff A h0 n0 (some (.int (4 : Int32))) s₁.heap _
                    rw [e0]
                    refine ⟨?_, N0, rfl⟩
                    exact congrArg (fun q => some (Value.int q)) (by unfold own_ln; rw [if_neg hc22, if_neg hc35, if_neg hc48, if_pos hc95, ← hlo, ← hhi, if_neg hc151, if_neg hc171, if_neg hc178, if_pos hc208, if_pos hc208_2])
                  · skip
                    refine own_st (V := s₁.setTop (mkF m 212 #[.val (.ref ch), .val (.int xa), .val (.int xe), .val (.int ((ff A) &&& (255 : Int32))), .val (.int (4 : Int32)), .val (.int lo), .val (.int hi), .val (.int ((ff (A + 1)) &&& (255 : Int32))), .val (.int ((xa + (2 : Int32)) + (1 : Int32)))] [(.int (0 : Int32))])) (fun tgt k => ?_) ?_
                    · show Steps p.tables e below (s₁.setTop (mkF m 208 #[.val (.ref ch), .val (.int xa), .val (.int xe), .val (.int ((ff A) &&& (255 : Int32))), .val (.int (4 : Int32)), .val (.int lo), .val (.int hi), .val (.int ((ff (A + 1)) &&& (255 : Int32))), .val (.int ((xa + (2 : Int32)) + (1 : Int32)))] [(.int (128 : Int32)), (.int ((ff (A + 3)) &&& (192 : Int32)))])) tgt
                      refine XS.icmpNo X0.here hx rfl (hb hby d1_208) rfl (feq hc208_2).1 ?_
                      show Steps p.tables e below (s₁.setTop (mkF m 211 #[.val (.ref ch), .val (.int xa), .val (.int xe), .val (.int ((ff A) &&& (255 : Int32))), .val (.int (4 : Int32)), .val (.int lo), .val (.int hi), .val (.int ((ff (A + 1)) &&& (255 : Int32))), .val (.int ((xa + (2 : Int32)) + (1 : Int32)))] [])) tgt
                      refine XS.iconst X0.here hx rfl (hb hby d1_211) ?_
                      exact k
                    refine own_retI X0 hx hlk Bd.returns (hb hby d1_212) ?_ (by decide) (by decide)
                    show Q1 Z ch xa xe ff A h0 n0 (some (.int (0 : Int32))) s₁.heap _
                    rw [e0]
                    refine ⟨?_, N0, rfl⟩
                    exact congrArg (fun q => some (Value.int q)) (by unfold own_ln; rw [if_neg hc22, if_neg hc35, if_neg hc48, if_pos hc95, ← hlo, ← hhi, if_neg hc151, if_neg hc171, if_neg hc178, if_pos hc208, if_neg hc208_2])
                · skip
                  refine own_st (V := s₁.setTop (mkF m 212 #[.val (.ref ch), .val (.int xa), .val (.int xe), .val (.int ((ff A) &&& (255 : Int32))), .val (.int (4 : Int32)), .val (.int lo), .val (.int hi), .val (.int ((ff (A + 1)) &&& (255 : Int32))), .val (.int (xa + (2 : Int32)))] [(.int (0 : Int32))])) (fun tgt k => ?_) ?_
                  · show Steps p.tables e below (s₁.setTop (mkF m 208 #[.val (.ref ch), .val (.int xa), .val (.int xe), .val (.int ((ff A) &&& (255 : Int32))), .val (.int (4 : Int32)), .val (.int lo), .val (.int hi), .val (.int ((ff (A + 1)) &&& (255 : Int32))), .val (.int (xa + (2 : Int32)))] [(.int (128 : Int32)), (.int ((ff (A + 2)) &&& (192 : Int32)))])) tgt
                    refine XS.icmpNo X0.here hx rfl (hb hby d1_208) rfl (feq hc208).1 ?_
                    show Steps p.tables e below (s₁.setTop (mkF m 211 #[.val (.ref ch), .val (.int xa), .val (.int xe), .val (.int ((ff A) &&& (255 : Int32))), .val (.int (4 : Int32)), .val (.int lo), .val (.int hi), .val (.int ((ff (A + 1)) &&& (255 : Int32))), .val (.int (xa + (2 : Int32)))] [])) tgt
                    refine XS.iconst X0.here hx rfl (hb hby d1_211) ?_
                    exact k
                  refine own_retI X0 hx hlk Bd.returns (hb hby d1_212) ?_ (by decide) (by decide)
                  show Q1 Z ch xa xe ff A h0 n0 (some (.int (0 : Int32))) s₁.heap _
                  rw [e0]
                  refine ⟨?_, N0, rfl⟩
                  exact congrArg (fun q => some (Value.int q)) (by unfold own_ln; rw [if_neg hc22, if_neg hc35, if_neg hc48, if_pos hc95, ← hlo, ← hhi, if_neg hc151, if_neg hc171, if_neg hc178, if_neg hc208])
        · skip
          refine own_st (V := s₁.setTop (mkF m 155 #[.val (.ref ch), .val (.int xa), .val (.int xe), .val (.int ((ff A) &&& (255 : Int32))), .val (.int (0 : Int32)), .val (.int (128 : Int32)), .val (.int (191 : Int32)), .unset, .unset] [(.int (0 : Int32))])) (fun tgt k => ?_) ?_
          · show Steps p.tables e below (s₁.setTop (mkF m 95 #[.val (.ref ch), .val (.int xa), .val (.int xe), .val (.int ((ff A) &&& (255 : Int32))), .unset, .val (.int (128 : Int32)), .val (.int (191 : Int32)), .unset, .unset] [(.int (245 : Int32)), (.int ((ff A) &&& (255 : Int32)))])) tgt
            refine XS.icmpYes X0.here hx rfl (pc0 := 95) (pc' := 138) rfl (hb hby d1_95) rfl (flt hc95).2.1 (by decide) (by decide) ?_
            show Steps p.tables e below (s₁.setTop (mkF m 138 #[.val (.ref ch), .val (.int xa), .val (.int xe), .val (.int ((ff A) &&& (255 : Int32))), .unset, .val (.int (128 : Int32)), .val (.int (191 : Int32)), .unset, .unset] [])) tgt
            refine XS.iconst X0.here hx rfl (hb hby d1_138) ?_
            show Steps p.tables e below (s₁.setTop (mkF m 139 #[.val (.ref ch), .val (.int xa), .val (.int xe), .val (.int ((ff A) &&& (255 : Int32))), .unset, .val (.int (128 : Int32)), .val (.int (191 : Int32)), .unset, .unset] [(.int (0 : Int32))])) tgt
            refine XS.istore X0.here hx rfl (hb hby d1_139) rfl (l' := #[.val (.ref ch), .val (.int xa), .val (.int xe), .val (.int ((ff A) &&& (255 : Int32))), .val (.int (0 : Int32)), .val (.int (128 : Int32)), .val (.int (191 : Int32)), .unset, .unset]) rfl ?_
            show Steps p.tables e below (s₁.setTop (mkF m 141 #[.val (.ref ch), .val (.int xa), .val (.int xe), .val (.int ((ff A) &&& (255 : Int32))), .val (.int (0 : Int32)), .val (.int (128 : Int32)), .val (.int (191 : Int32)), .unset, .unset] [])) tgt
            refine XS.iload X0.here hx rfl (hb hby d1_141) rfl ?_
            show Steps p.tables e below (s₁.setTop (mkF m 143 #[.val (.ref ch), .val (.int xa), .val (.int xe), .val (.int ((ff A) &&& (255 : Int32))), .val (.int (0 : Int32)), .val (.int (128 : Int32)), .val (.int (191 : Int32)), .unset, .unset] [(.int (0 : Int32))])) tgt
            refine XS.ifYes X0.here hx rfl (pc0 := 143) (pc' := 154) rfl (hb hby d1_143) rfl ((if0 _ _).trans (teq (by decide : (0 : Int32) = (0 : Int32))).1) (by decide) (by decide) ?_
            show Steps p.tables e below (s₁.setTop (mkF m 154 #[.val (.ref ch), .val (.int xa), .val (.int xe), .val (.int ((ff A) &&& (255 : Int32))), .val (.int (0 : Int32)), .val (.int (128 : Int32)), .val (.int (191 : Int32)), .unset, .unset] [])) tgt
            refine XS.iconst X0.here hx rfl (hb hby d1_154) ?_
            exact k
          refine own_retI X0 hx hlk Bd.returns (hb hby d1_155) ?_ (by decide) (by decide)
          show Q1 Z ch xa xe ff A h0 n0 (some (.int (0 : Int32))) s₁.heap _
          rw [e0]
          refine ⟨?_, N0, rfl⟩
          exact congrArg (fun q => some (Value.int q)) (by unfold own_ln; rw [if_neg hc22, if_neg hc35, if_neg hc48, if_neg hc95])
theorem pn_0 : plainName "com/example/headwater/headwater/connectors/format/JsonRecordUtf8LengthPinLaw" = true := by first | (simp [plainName, overriddenIn]; done) | decide +kernel
theorem pd_0_0 : parseMethodDescriptor "([BII)I" = some ⟨[(.array .byte), .int, .int], some .int⟩ := by decide +kernel
theorem pd_0_1 : parseMethodDescriptor "(IIIII)I" = some ⟨[.int, .int, .int, .int, .int], some .int⟩ := by decide +kernel
theorem ef_0 (m : MethodId) (x0 : Int32) (x1 : Int32) (x2 : Int32) (x3 : Int32) (x4 : Int32) (x5 : Int32) : entryFrame m #[(.int x0), (.int x1), (.int x2), (.int x3), (.int x4), (.int x5)] maxLocals = mkF m 0 #[.val (.int x0), .val (.int x1), .val (.int x2), .val (.int x3), .val (.int x4), .val (.int x5), .unset, .unset, .unset, .unset, .unset, .unset] [] := by first | (simp [entryFrame, mkF, argsToLocals, Value.category, maxLocals]; done) | rfl
def Q0 (Z : State) (b0 : Int32) (b1 : Int32) (b2 : Int32) (b3 : Int32) (vl : Int32) (pd : Int32) (h0 : Heap) (n0 : Nat) (v : Option Value) (h : Heap) (L : List Loc) : Prop := v = some (.int (1 : Int32)) ∧ Fr n0 L
set_option maxRecDepth 65536 in
set_option maxHeartbeats 40000000 in
theorem rm0 (l : Launch) (Z : State) (a0 : Array Value) (hw : ∀ d ∈ tables_1, d.before a0 Z = true) (ws : List Jvm.Cond) (b0 : Int32) (b1 : Int32) (b2 : Int32) (b3 : Int32) (vl : Int32) (pd : Int32) (h0 : Heap) (n0 : Nat) (Z0 : n0 ≤ h0.size) :
    MetFree l x (head1 (Jvm.Cond.code x code maxLocals ret :: ws) room_1) (fun a U => a = #[(.int b0), (.int b1), (.int b2), (.int b3), (.int vl), (.int pd)] ∧ Z.Warmed39 U.vm ∧ U.heap = h0) (fun _ _ _ _ _ => True) (fun _ U o U' => ∃ v L, o = .returned v ∧ Q0 Z b0 b1 b2 b3 vl pd h0 n0 v U'.heap L ∧ FrameEnd U o U' L 16 128) := by
  refine MetFree.of_bodySF (plainFor_of_name pn_0) hisR ?_
  intro p e s m args below meth c s₁ Bd hml0 hP hK
  obtain ⟨rfl, hZ, hh⟩ := hP
  have hx := Bd.exec
  have hby := Bd.bytes
  have hlk : meth.locks = false := BodyLoose.notSynchronized Bd
  have hml : c.maxLocals = 12 := hml0
  have hown : s.vm.findClass "com/example/headwater/headwater/connectors/format/JsonRecordUtf8LengthPinLaw" = some m.cls := findClass_of_methodNamed Bd.named
  have hnm := (name_of_methodNamed Bd.named Bd.method).1
  have X0 : Stand p l e room_1 s m #[(.int b0), (.int b1), (.int b2), (.int b3), (.int vl), (.int pd)] below meth c s₁ [] 0 0 := Stand.of_body Bd
  have e0 : s₁.heap = h0 := by rw [← hh, Bd.state]; rfl
  have N0 := Fr.nil n0
  show own_Go p e below (own_G s (Q0 Z b0 b1 b2 b3 vl pd h0 n0) 16 128) (s₁.setTop (entryFrame m #[(.int b0), (.int b1), (.int b2), (.int b3), (.int vl), (.int pd)] maxLocals))
  refine own_st (fun tgt k => castTop (ef_0 m b0 b1 b2 b3 vl pd) k) ?_
  show own_Go p e below _ (s₁.setTop (mkF m 0 #[.val (.int b0), .val (.int b1), .val (.int b2), .val (.int b3), .val (.int vl), .val (.int pd), .unset, .unset, .unset, .unset, .unset, .unset] []))
  refine own_st (V := s₁.setTop (mkF m 2 #[.val (.int b0), .val (.int b1), .val (.int b2), .val (.int b3), .val (.int vl), .val (.int pd), .unset, .unset, .unset, .unset, .unset, .unset] [(.int (8 : Int32))])) (fun tgt k => ?_) ?_
  · show Steps p.tables e below (s₁.setTop (mkF m 0 #[.val (.int b0), .val (.int b1), .val (.int b2), .val (.int b3), .val (.int vl), .val (.int pd), .unset, .unset, .unset, .unset, .unset, .unset] [])) tgt
    refine XS.bipush X0.here hx rfl (hb hby at_0) ?_
    exact k
  obtain ⟨T1, h1, c1, X1, e1, E1, A1, st1⟩ := own_newarr X0 hx hZ (hw _ (List.mem_of_getElem? (i := 0) rfl)) e0 (g := (mkF m 2 #[.val (.int b0), .val (.int b1), .val (.int b2), .val (.int b3), .val (.int vl), .val (.int pd), .unset, .unset, .unset, .unset, .unset, .unset] [(.int (8 : Int32))])) rfl (hb hby at_2) rfl (k := 8) rfl (cap := 8) (by decide) (by decide) (by decide) (by decide)
  obtain ⟨ba, g1⟩ : ∃ z, z = h0.size := ⟨_, rfl⟩
  rw [← g1] at A1 st1
  have g_ba : n0 ≤ ba := Nat.le_trans Z0 (Nat.le_of_eq g1.symm)
  have A_ba_1 : own_Ai Z h1 ba .byte 8 (fun _ => 0) := own_Ai.new A1
  have Zs1 : n0 ≤ h1.size := Nat.le_trans Z0 E1.1
  refine own_st st1 ?_
  show own_Go p e below _ (T1.setTop (mkF m 4 #[.val (.int b0), .val (.int b1), .val (.int b2), .val (.int b3), .val (.int vl), .val (.int pd), .unset, .unset, .unset, .unset, .unset, .unset] [(.ref ba)]))
  refine own_st (V := T1.setTop (mkF m 12 #[.val (.int b0), .val (.int b1), .val (.int b2), .val (.int b3), .val (.int vl), .val (.int pd), .val (.ref ba), .val (.int (pd &&& (3 : Int32))), .unset, .unset, .unset, .unset] [])) (fun tgt k => ?_) ?_
  · show Steps p.tables e below (T1.setTop (mkF m 4 #[.val (.int b0), .val (.int b1), .val (.int b2), .val (.int b3), .val (.int vl), .val (.int pd), .unset, .unset, .unset, .unset, .unset, .unset] [(.ref ba)])) tgt
    refine XS.astore X1.here hx rfl (hb hby at_4) rfl rfl (l' := #[.val (.int b0), .val (.int b1), .val (.int b2), .val (.int b3), .val (.int vl), .val (.int pd), .val (.ref ba), .unset, .unset, .unset, .unset, .unset]) rfl ?_
    show Steps p.tables e below (T1.setTop (mkF m 6 #[.val (.int b0), .val (.int b1), .val (.int b2), .val (.int b3), .val (.int vl), .val (.int pd), .val (.ref ba), .unset, .unset, .unset, .unset, .unset] [])) tgt
    refine XS.iload X1.here hx rfl (hb hby at_6) rfl ?_
    show Steps p.tables e below (T1.setTop (mkF m 8 #[.val (.int b0), .val (.int b1), .val (.int b2), .val (.int b3), .val (.int vl), .val (.int pd), .val (.ref ba), .unset, .unset, .unset, .unset, .unset] [(.int pd)])) tgt
    refine XS.iconst X1.here hx rfl (hb hby at_8) ?_
    show Steps p.tables e below (T1.setTop (mkF m 9 #[.val (.int b0), .val (.int b1), .val (.int b2), .val (.int b3), .val (.int vl), .val (.int pd), .val (.ref ba), .unset, .unset, .unset, .unset, .unset] [(.int (3 : Int32)), (.int pd)])) tgt
    refine XS.iand X1.here hx rfl (hb hby at_9) rfl ?_
    show Steps p.tables e below (T1.setTop (mkF m 10 #[.val (.int b0), .val (.int b1), .val (.int b2), .val (.int b3), .val (.int vl), .val (.int pd), .val (.ref ba), .unset, .unset, .unset, .unset, .unset] [(.int (pd &&& (3 : Int32)))])) tgt
    refine XS.istore X1.here hx rfl (hb hby at_10) rfl (l' := #[.val (.int b0), .val (.int b1), .val (.int b2), .val (.int b3), .val (.int vl), .val (.int pd), .val (.ref ba), .val (.int (pd &&& (3 : Int32))), .unset, .unset, .unset, .unset]) rfl ?_
    exact k
  obtain ⟨av, hav⟩ : ∃ z : Int32, z = (pd &&& (3 : Int32)) := ⟨_, rfl⟩
  rw [← hav]
  have hav0 := c_and pd 3 (by decide)
  rw [← hav, show (3 : Int32).toInt = 3 from rfl] at hav0
  obtain ⟨A, hA, hA4⟩ : ∃ A : Nat, av.toInt = (A : Int) ∧ A < 4 := ⟨av.toInt.toNat, by omega, by omega⟩
  have a1 : (av + (1 : Int32)).toInt = ((A + 1 : Nat) : Int) := own_ai hA (by omega) (by decide) (by decide)
  have a2 : (av + (2 : Int32)).toInt = ((A + 2 : Nat) : Int) := own_ai hA (by omega) (by decide) (by decide)
  have a3 : (av + (3 : Int32)).toInt = ((A + 3 : Nat) : Int) := own_ai hA (by omega) (by decide) (by decide)
  refine own_st (V := T1.setTop (mkF m 22 #[.val (.int b0), .val (.int b1), .val (.int b2), .val (.int b3), .val (.int vl), .val (.int pd), .val (.ref ba), .val (.int av), .unset, .unset, .unset, .unset] [(.int ((b0 ||| (128 : Int32)).toInt8.toInt32)), (.int av), (.ref ba)])) (fun tgt k => ?_) ?_
  · show Steps p.tables e below (T1.setTop (mkF m 12 #[.val (.int b0), .val (.int b1), .val (.int b2), .val (.int b3), .val (.int vl), .val (.int pd), .val (.ref ba), .val (.int av), .unset, .unset, .unset, .unset] [])) tgt
    refine XS.aload X1.here hx rfl (hb hby at_12) rfl rfl ?_
    show Steps p.tables e below (T1.setTop (mkF m 14 #[.val (.int b0), .val (.int b1), .val (.int b2), .val (.int b3), .val (.int vl), .val (.int pd), .val (.ref ba), .val (.int av), .unset, .unset, .unset, .unset] [(.ref ba)])) tgt
    refine XS.iload X1.here hx rfl (hb hby at_14) rfl ?_
    show Steps p.tables e below (T1.setTop (mkF m 16 #[.val (.int b0), .val (.int b1), .val (.int b2), .val (.int b3), .val (.int vl), .val (.int pd), .val (.ref ba), .val (.int av), .unset, .unset, .unset, .unset] [(.int av), (.ref ba)])) tgt
    refine XS.iloadN X1.here hx rfl (hb hby at_16) rfl ?_
    show Steps p.tables e below (T1.setTop (mkF m 17 #[.val (.int b0), .val (.int b1), .val (.int b2), .val (.int b3), .val (.int vl), .val (.int pd), .val (.ref ba), .val (.int av), .unset, .unset, .unset, .unset] [(.int b0), (.int av), (.ref ba)])) tgt
    refine XS.sipush X1.here hx rfl (hb hby at_17) ?_
    show Steps p.tables e below (T1.setTop (mkF m 20 #[.val (.int b0), .val (.int b1), .val (.int b2), .val (.int b3), .val (.int vl), .val (.int pd), .val (.ref ba), .val (.int av), .unset, .unset, .unset, .unset] [(.int (128 : Int32)), (.int b0), (.int av), (.ref ba)])) tgt
    refine XS.ior X1.here hx rfl (hb hby at_20) rfl ?_
    show Steps p.tables e below (T1.setTop (mkF m 21 #[.val (.int b0), .val (.int b1), .val (.int b2), .val (.int b3), .val (.int vl), .val (.int pd), .val (.ref ba), .val (.int av), .unset, .unset, .unset, .unset] [(.int (b0 ||| (128 : Int32))), (.int av), (.ref ba)])) tgt
    refine XS.i2b X1.here hx rfl (hb hby at_21) rfl ?_
    exact k
  obtain ⟨T2, h2, X2, e2, W2, A_ba_2, st2⟩ := own_bastore X1 hx hZ e1 A_ba_1 (j := av) (k := A) hA (by omega) (g := (mkF m 22 #[.val (.int b0), .val (.int b1), .val (.int b2), .val (.int b3), .val (.int vl), .val (.int pd), .val (.ref ba), .val (.int av), .unset, .unset, .unset, .unset] [(.int ((b0 ||| (128 : Int32)).toInt8.toInt32)), (.int av), (.ref ba)])) rfl rfl (hb hby at_22)
  have N2 := Fr.snoc X2 N0 g_ba
  have Zs2 : n0 ≤ h2.size := Nat.le_trans Zs1 (Keep.of_wr W2).1
  refine own_st st2 ?_
  show own_Go p e below _ (T2.setTop (mkF m 23 #[.val (.int b0), .val (.int b1), .val (.int b2), .val (.int b3), .val (.int vl), .val (.int pd), .val (.ref ba), .val (.int av), .unset, .unset, .unset, .unset] []))
  refine own_st (V := T2.setTop (mkF m 31 #[.val (.int b0), .val (.int b1), .val (.int b2), .val (.int b3), .val (.int vl), .val (.int pd), .val (.ref ba), .val (.int av), .unset, .unset, .unset, .unset] [(.int (b1.toInt8.toInt32)), (.int (av + (1 : Int32))), (.ref ba)])) (fun tgt k => ?_) ?_
  · show Steps p.tables e below (T2.setTop (mkF m 23 #[.val (.int b0), .val (.int b1), .val (.int b2), .val (.int b3), .val (.int vl), .val (.int pd), .val (.ref ba), .val (.int av), .unset, .unset, .unset, .unset] [])) tgt
    refine XS.aload X2.here hx rfl (hb hby at_23) rfl rfl ?_
    show Steps p.tables e below (T2.setTop (mkF m 25 #[.val (.int b0), .val (.int b1), .val (.int b2), .val (.int b3), .val (.int vl), .val (.int pd), .val (.ref ba), .val (.int av), .unset, .unset, .unset, .unset] [(.ref ba)])) tgt
    refine XS.iload X2.here hx rfl (hb hby at_25) rfl ?_
    show Steps p.tables e below (T2.setTop (mkF m 27 #[.val (.int b0), .val (.int b1), .val (.int b2), .val (.int b3), .val (.int vl), .val (.int pd), .val (.ref ba), .val (.int av), .unset, .unset, .unset, .unset] [(.int av), (.ref ba)])) tgt
    refine XS.iconst X2.here hx rfl (hb hby at_27) ?_
    show Steps p.tables e below (T2.setTop (mkF m 28 #[.val (.int b0), .val (.int b1), .val (.int b2), .val (.int b3), .val (.int vl), .val (.int pd), .val (.ref ba), .val (.int av), .unset, .unset, .unset, .unset] [(.int (1 : Int32)), (.int av), (.ref ba)])) tgt
    refine XS.iadd X2.here hx rfl (hb hby at_28) rfl ?_
    show Steps p.tables e below (T2.setTop (mkF m 29 #[.val (.int b0), .val (.int b1), .val (.int b2), .val (.int b3), .val (.int vl), .val (.int pd), .val (.ref ba), .val (.int av), .unset, .unset, .unset, .unset] [(.int (av + (1 : Int32))), (.ref ba)])) tgt
    refine XS.iloadN X2.here hx rfl (hb hby at_29) rfl ?_
    show Steps p.tables e below (T2.setTop (mkF m 30 #[.val (.int b0), .val (.int b1), .val (.int b2), .val (.int b3), .val (.int vl), .val (.int pd), .val (.ref ba), .val (.int av), .unset, .unset, .unset, .unset] [(.int b1), (.int (av + (1 : Int32))), (.ref ba)])) tgt
    refine XS.i2b X2.here hx rfl (hb hby at_30) rfl ?_
    exact k
  obtain ⟨T3, h3, X3, e3, W3, A_ba_3, st3⟩ := own_bastore X2 hx hZ e2 A_ba_2 (j := (av + (1 : Int32))) (k := (A + 1)) a1 (by omega) (g := (mkF m 31 #[.val (.int b0), .val (.int b1), .val (.int b2), .val (.int b3), .val (.int vl), .val (.int pd), .val (.ref ba), .val (.int av), .unset, .unset, .unset, .unset] [(.int (b1.toInt8.toInt32)), (.int (av + (1 : Int32))), (.ref ba)])) rfl rfl (hb hby at_31)
  have N3 := Fr.snoc X3 N2 g_ba
  have Zs3 : n0 ≤ h3.size := Nat.le_trans Zs2 (Keep.of_wr W3).1
  refine own_st st3 ?_
  show own_Go p e below _ (T3.setTop (mkF m 32 #[.val (.int b0), .val (.int b1), .val (.int b2), .val (.int b3), .val (.int vl), .val (.int pd), .val (.ref ba), .val (.int av), .unset, .unset, .unset, .unset] []))
  refine own_st (V := T3.setTop (mkF m 40 #[.val (.int b0), .val (.int b1), .val (.int b2), .val (.int b3), .val (.int vl), .val (.int pd), .val (.ref ba), .val (.int av), .unset, .unset, .unset, .unset] [(.int (b2.toInt8.toInt32)), (.int (av + (2 : Int32))), (.ref ba)])) (fun tgt k => ?_) ?_
  · show Steps p.tables e below (T3.setTop (mkF m 32 #[.val (.int b0), .val (.int b1), .val (.int b2), .val (.int b3), .val (.int vl), .val (.int pd), .val (.ref ba), .val (.int av), .unset, .unset, .unset, .unset] [])) tgt
    refine XS.aload X3.here hx rfl (hb hby at_32) rfl rfl ?_
    show Steps p.tables e below (T3.setTop (mkF m 34 #[.val (.int b0), .val (.int b1), .val (.int b2), .val (.int b3), .val (.int vl), .val (.int pd), .val (.ref ba), .val (.int av), .unset, .unset, .unset, .unset] [(.ref ba)])) tgt
    refine XS.iload X3.here hx rfl (hb hby at_34) rfl ?_
    show Steps p.tables e below (T3.setTop (mkF m 36 #[.val (.int b0), .val (.int b1), .val (.int b2), .val (.int b3), .val (.int vl), .val (.int pd), .val (.ref ba), .val (.int av), .unset, .unset, .unset, .unset] [(.int av), (.ref ba)])) tgt
    refine XS.iconst X3.here hx rfl (hb hby at_36) ?_
    show Steps p.tables e below (T3.setTop (mkF m 37 #[.val (.int b0), .val (.int b1), .val (.int b2), .val (.int b3), .val (.int vl), .val (.int pd), .val (.ref ba), .val (.int av), .unset, .unset, .unset, .unset] [(.int (2 : Int32)), (.int av), (.ref ba)])) tgt
    refine XS.iadd X3.here hx rfl (hb hby at_37) rfl ?_
    show Steps p.tables e below (T3.setTop (mkF m 38 #[.val (.int b0), .val (.int b1), .val (.int b2), .val (.int b3), .val (.int vl), .val (.int pd), .val (.ref ba), .val (.int av), .unset, .unset, .unset, .unset] [(.int (av + (2 : Int32))), (.ref ba)])) tgt
    refine XS.iloadN X3.here hx rfl (hb hby at_38) rfl ?_
    show Steps p.tables e below (T3.setTop (mkF m 39 #[.val (.int b0), .val (.int b1), .val (.int b2), .val (.int b3), .val (.int vl), .val (.int pd), .val (.ref ba), .val (.int av), .unset, .unset, .unset, .unset] [(.int b2), (.int (av + (2 : Int32))), (.ref ba)])) tgt
    refine XS.i2b X3.here hx rfl (hb hby at_39) rfl ?_
    exact k
  obtain ⟨T4, h4, X4, e4, W4, A_ba_4, st4⟩ := own_bastore X3 hx hZ e3 A_ba_3 (j := (av + (2 : Int32))) (k := (A + 2)) a2 (by omega) (g := (mkF m 40 #[.val (.int b0), .val (.int b1), .val (.int b2), .val (.int b3), .val (.int vl), .val (.int pd), .val (.ref ba), .val (.int av), .unset, .unset, .unset, .unset] [(.int (b2.toInt8.toInt32)), (.int (av + (2 : Int32))), (.ref ba)])) rfl rfl (hb hby at_40)
  have N4 := Fr.snoc X4 N3 g_ba
  have Zs4 : n0 ≤ h4.size := Nat.le_trans Zs3 (Keep.of_wr W4).1
  refine own_st st4 ?_
  show own_Go p e below _ (T4.setTop (mkF m 41 #[.val (.int b0), .val (.int b1), .val (.int b2), .val (.int b3), .val (.int vl), .val (.int pd), .val (.ref ba), .val (.int av), .unset, .unset, .unset, .unset] []))
  refine own_st (V := T4.setTop (mkF m 49 #[.val (.int b0), .val (.int b1), .val (.int b2), .val (.int b3), .val (.int vl), .val (.int pd), .val (.ref ba), .val (.int av), .unset, .unset, .unset, .unset] [(.int (b3.toInt8.toInt32)), (.int (av + (3 : Int32))), (.ref ba)])) (fun tgt k => ?_) ?_
  · show Steps p.tables e below (T4.setTop (mkF m 41 #[.val (.int b0), .val (.int b1), .val (.int b2), .val (.int b3), .val (.int vl), .val (.int pd), .val (.ref ba), .val (.int av), .unset, .unset, .unset, .unset] [])) tgt
    refine XS.aload X4.here hx rfl (hb hby at_41) rfl rfl ?_
    show Steps p.tables e below (T4.setTop (mkF m 43 #[.val (.int b0), .val (.int b1), .val (.int b2), .val (.int b3), .val (.int vl), .val (.int pd), .val (.ref ba), .val (.int av), .unset, .unset, .unset, .unset] [(.ref ba)])) tgt
    refine XS.iload X4.here hx rfl (hb hby at_43) rfl ?_
    show Steps p.tables e below (T4.setTop (mkF m 45 #[.val (.int b0), .val (.int b1), .val (.int b2), .val (.int b3), .val (.int vl), .val (.int pd), .val (.ref ba), .val (.int av), .unset, .unset, .unset, .unset] [(.int av), (.ref ba)])) tgt
    refine XS.iconst X4.here hx rfl (hb hby at_45) ?_
    show Steps p.tables e below (T4.setTop (mkF m 46 #[.val (.int b0), .val (.int b1), .val (.int b2), .val (.int b3), .val (.int vl), .val (.int pd), .val (.ref ba), .val (.int av), .unset, .unset, .unset, .unset] [(.int (3 : Int32)), (.int av), (.ref ba)])) tgt
    refine XS.iadd X4.here hx rfl (hb hby at_46) rfl ?_
    show Steps p.tables e below (T4.setTop (mkF m 47 #[.val (.int b0), .val (.int b1), .val (.int b2), .val (.int b3), .val (.int vl), .val (.int pd), .val (.ref ba), .val (.int av), .unset, .unset, .unset, .unset] [(.int (av + (3 : Int32))), (.ref ba)])) tgt
    refine XS.iloadN X4.here hx rfl (hb hby at_47) rfl ?_
    show Steps p.tables e below (T4.setTop (mkF m 48 #[.val (.int b0), .val (.int b1), .val (.int b2), .val (.int b3), .val (.int vl), .val (.int pd), .val (.ref ba), .val (.int av), .unset, .unset, .unset, .unset] [(.int b3), (.int (av + (3 : Int32))), (.ref ba)])) tgt
    refine XS.i2b X4.here hx rfl (hb hby at_48) rfl ?_
    exact k
  obtain ⟨T5, h5, X5, e5, W5, A_ba_5, st5⟩ := own_bastore X4 hx hZ e4 A_ba_4 (j := (av + (3 : Int32))) (k := (A + 3)) a3 (by omega) (g := (mkF m 49 #[.val (.int b0), .val (.int b1), .val (.int b2), .val (.int b3), .val (.int vl), .val (.int pd), .val (.ref ba), .val (.int av), .unset, .unset, .unset, .unset] [(.int (b3.toInt8.toInt32)), (.int (av + (3 : Int32))), (.ref ba)])) rfl rfl (hb hby at_49)
  have N5 := Fr.snoc X5 N4 g_ba
  have Zs5 : n0 ≤ h5.size := Nat.le_trans Zs4 (Keep.of_wr W5).1
  refine own_st st5 ?_
  show own_Go p e below _ (T5.setTop (mkF m 50 #[.val (.int b0), .val (.int b1), .val (.int b2), .val (.int b3), .val (.int vl), .val (.int pd), .val (.ref ba), .val (.int av), .unset, .unset, .unset, .unset] []))
  obtain ⟨ef, hef⟩ : ∃ f : Nat → Int32, f = (own_up (own_up (own_up (own_up (fun _ => 0) A ((b0 ||| (128 : Int32)).toInt8.toInt32).toInt8.toInt32) (A + 1) (b1.toInt8.toInt32).toInt8.toInt32) (A + 2) (b2.toInt8.toInt32).toInt8.toInt32) (A + 3) (b3.toInt8.toInt32).toInt8.toInt32) := ⟨_, rfl⟩
  have Ag_ba_6 := A_ba_5
  rw [← hef] at Ag_ba_6
  refine own_st (V := T5.setTop (mkF m 61 #[.val (.int b0), .val (.int b1), .val (.int b2), .val (.int b3), .val (.int vl), .val (.int pd), .val (.ref ba), .val (.int av), .val (.int ((1 : Int32) + ((vl &&& (2147483647 : Int32)) % (4 : Int32)))), .unset, .unset, .unset] [])) (fun tgt k => ?_) ?_
  · show Steps p.tables e below (T5.setTop (mkF m 50 #[.val (.int b0), .val (.int b1), .val (.int b2), .val (.int b3), .val (.int vl), .val (.int pd), .val (.ref ba), .val (.int av), .unset, .unset, .unset, .unset] [])) tgt
    refine XS.iconst X5.here hx rfl (hb hby at_50) ?_
    show Steps p.tables e below (T5.setTop (mkF m 51 #[.val (.int b0), .val (.int b1), .val (.int b2), .val (.int b3), .val (.int vl), .val (.int pd), .val (.ref ba), .val (.int av), .unset, .unset, .unset, .unset] [(.int (1 : Int32))])) tgt
    refine XS.iload X5.here hx rfl (hb hby at_51) rfl ?_
    show Steps p.tables e below (T5.setTop (mkF m 53 #[.val (.int b0), .val (.int b1), .val (.int b2), .val (.int b3), .val (.int vl), .val (.int pd), .val (.ref ba), .val (.int av), .unset, .unset, .unset, .unset] [(.int vl), (.int (1 : Int32))])) tgt
    refine X5.ldcInt hx hown (mvT hZ (hw _ (List.mem_of_getElem? (i := 1) rfl))) (g := (mkF m 53 #[.val (.int b0), .val (.int b1), .val (.int b2), .val (.int b3), .val (.int vl), .val (.int pd), .val (.ref ba), .val (.int av), .unset, .unset, .unset, .unset] [(.int vl), (.int (1 : Int32))])) rfl (hb hby at_53) _ ?_
    show Steps p.tables e below (T5.setTop (mkF m 55 #[.val (.int b0), .val (.int b1), .val (.int b2), .val (.int b3), .val (.int vl), .val (.int pd), .val (.ref ba), .val (.int av), .unset, .unset, .unset, .unset] [(.int (2147483647 : Int32)), (.int vl), (.int (1 : Int32))])) tgt
    refine XS.iand X5.here hx rfl (hb hby at_55) rfl ?_
    show Steps p.tables e below (T5.setTop (mkF m 56 #[.val (.int b0), .val (.int b1), .val (.int b2), .val (.int b3), .val (.int vl), .val (.int pd), .val (.ref ba), .val (.int av), .unset, .unset, .unset, .unset] [(.int (vl &&& (2147483647 : Int32))), (.int (1 : Int32))])) tgt
    refine XS.iconst X5.here hx rfl (hb hby at_56) ?_
    show Steps p.tables e below (T5.setTop (mkF m 57 #[.val (.int b0), .val (.int b1), .val (.int b2), .val (.int b3), .val (.int vl), .val (.int pd), .val (.ref ba), .val (.int av), .unset, .unset, .unset, .unset] [(.int (4 : Int32)), (.int (vl &&& (2147483647 : Int32))), (.int (1 : Int32))])) tgt
    refine iremM X5 hx rfl (hb hby at_57) rfl (by decide) ?_
    show Steps p.tables e below (T5.setTop (mkF m 58 #[.val (.int b0), .val (.int b1), .val (.int b2), .val (.int b3), .val (.int vl), .val (.int pd), .val (.ref ba), .val (.int av), .unset, .unset, .unset, .unset] [(.int ((vl &&& (2147483647 : Int32)) % (4 : Int32))), (.int (1 : Int32))])) tgt
    refine XS.iadd X5.here hx rfl (hb hby at_58) rfl ?_
    show Steps p.tables e below (T5.setTop (mkF m 59 #[.val (.int b0), .val (.int b1), .val (.int b2), .val (.int b3), .val (.int vl), .val (.int pd), .val (.ref ba), .val (.int av), .unset, .unset, .unset, .unset] [(.int ((1 : Int32) + ((vl &&& (2147483647 : Int32)) % (4 : Int32))))])) tgt
    refine XS.istore X5.here hx rfl (hb hby at_59) rfl (l' := #[.val (.int b0), .val (.int b1), .val (.int b2), .val (.int b3), .val (.int vl), .val (.int pd), .val (.ref ba), .val (.int av), .val (.int ((1 : Int32) + ((vl &&& (2147483647 : Int32)) % (4 : Int32)))), .unset, .unset, .unset]) rfl ?_
    exact k
  obtain ⟨nv, hnv⟩ : ∃ z : Int32, z = ((1 : Int32) + ((vl &&& (2147483647 : Int32)) % (4 : Int32))) := ⟨_, rfl⟩
  rw [← hnv]
  refine own_st (V := T5.setTop (mkF m 74 #[.val (.int b0), .val (.int b1), .val (.int b2), .val (.int b3), .val (.int vl), .val (.int pd), .val (.ref ba), .val (.int av), .val (.int nv), .val (.int (av + nv)), .unset, .unset] [(.int (av + nv)), (.int av), (.ref ba)])) (fun tgt k => ?_) ?_
  · show Steps p.tables e below (T5.setTop (mkF m 61 #[.val (.int b0), .val (.int b1), .val (.int b2), .val (.int b3), .val (.int vl), .val (.int pd), .val (.ref ba), .val (.int av), .val (.int nv), .unset, .unset, .unset] [])) tgt
    refine XS.iload X5.here hx rfl (hb hby at_61) rfl ?_
    show Steps p.tables e below (T5.setTop (mkF m 63 #[.val (.int b0), .val (.int b1), .val (.int b2), .val (.int b3), .val (.int vl), .val (.int pd), .val (.ref ba), .val (.int av), .val (.int nv), .unset, .unset, .unset] [(.int av)])) tgt
    refine XS.iload X5.here hx rfl (hb hby at_63) rfl ?_
    show Steps p.tables e below (T5.setTop (mkF m 65 #[.val (.int b0), .val (.int b1), .val (.int b2), .val (.int b3), .val (.int vl), .val (.int pd), .val (.ref ba), .val (.int av), .val (.int nv), .unset, .unset, .unset] [(.int nv), (.int av)])) tgt
    refine XS.iadd X5.here hx rfl (hb hby at_65) rfl ?_
    show Steps p.tables e below (T5.setTop (mkF m 66 #[.val (.int b0), .val (.int b1), .val (.int b2), .val (.int b3), .val (.int vl), .val (.int pd), .val (.ref ba), .val (.int av), .val (.int nv), .unset, .unset, .unset] [(.int (av + nv))])) tgt
    refine XS.istore X5.here hx rfl (hb hby at_66) rfl (l' := #[.val (.int b0), .val (.int b1), .val (.int b2), .val (.int b3), .val (.int vl), .val (.int pd), .val (.ref ba), .val (.int av), .val (.int nv), .val (.int (av + nv)), .unset, .unset]) rfl ?_
    show Steps p.tables e below (T5.setTop (mkF m 68 #[.val (.int b0), .val (.int b1), .val (.int b2), .val (.int b3), .val (.int vl), .val (.int pd), .val (.ref ba), .val (.int av), .val (.int nv), .val (.int (av + nv)), .unset, .unset] [])) tgt
    refine XS.aload X5.here hx rfl (hb hby at_68) rfl rfl ?_
    show Steps p.tables e below (T5.setTop (mkF m 70 #[.val (.int b0), .val (.int b1), .val (.int b2), .val (.int b3), .val (.int vl), .val (.int pd), .val (.ref ba), .val (.int av), .val (.int nv), .val (.int (av + nv)), .unset, .unset] [(.ref ba)])) tgt
    refine XS.iload X5.here hx rfl (hb hby at_70) rfl ?_
    show Steps p.tables e below (T5.setTop (mkF m 72 #[.val (.int b0), .val (.int b1), .val (.int b2), .val (.int b3), .val (.int vl), .val (.int pd), .val (.ref ba), .val (.int av), .val (.int nv), .val (.int (av + nv)), .unset, .unset] [(.int av), (.ref ba)])) tgt
    refine XS.iload X5.here hx rfl (hb hby at_72) rfl ?_
    exact k
  obtain ⟨_, _, ⟨T7, L7, k7, n7⟩, -, X7, ⟨Lc7, hQ7, l7, y7, z7⟩, st7⟩ := Jvm.LawKit.callS X5 hx (y := (⟨"com/example/headwater/headwater/connectors/format/JsonRecord", "utf8Length", "([BII)I"⟩ : MethodName)) hown (mvT hZ (hw _ (List.mem_of_getElem? (i := 2) rfl))) (mvT hZ (hw _ (List.mem_of_getElem? (i := 3) rfl))) (mvT hZ (hw _ (List.mem_of_getElem? (i := 4) rfl))) (mvT hZ (hw _ (List.mem_of_getElem? (i := 5) rfl))) (by decide) (backOf (W := 0) (rm1 l Z a0 hw [] ba av (av + nv) ef A h5 n0 Zs5 Ag_ba_6 hA hA4) hZ (hw _ (List.mem_of_getElem? (i := 5) rfl)) (hw _ (List.mem_of_getElem? (i := 4) rfl)) (by decide) (by decide)) (g := (mkF m 74 #[.val (.int b0), .val (.int b1), .val (.int b2), .val (.int b3), .val (.int vl), .val (.int pd), .val (.ref ba), .val (.int av), .val (.int nv), .val (.int (av + nv)), .unset, .unset] [(.int (av + nv)), (.int av), (.ref ba)])) rfl (by rw [hml]; rfl) (argsL := [(.ref ba), (.int av), (.int (av + nv))]) (rest := []) (lenOf pd_0_0 rfl) rfl (by show 2 * 0 + _ ≤ _; exact Nat.le_of_eq rfl) (hb hby at_74) (fun _ _ => ⟨rfl, e5, (by decide : 1 + 0 ≤ _), (by decide : 8 + 0 ≤ _)⟩)
  dsimp only [Pt.U, Pt.locs, Pt.cells, Pt.slots] at X7 l7 y7 z7 st7 hQ7
  subst l7 y7 z7
  obtain ⟨rfl, N7q, K7⟩ := hQ7
  have N7 := Fr.app N5 N7q
  refine own_st st7 ?_
  show own_Go p e below _ (T7.setTop (mkF m 77 #[.val (.int b0), .val (.int b1), .val (.int b2), .val (.int b3), .val (.int vl), .val (.int pd), .val (.ref ba), .val (.int av), .val (.int nv), .val (.int (av + nv)), .unset, .unset] [(.int (own_ln ((ef A) &&& 255) ((ef (A + 1)) &&& 255) (ef (A + 2)) (ef (A + 3)) ((av + nv) - av)))]))
  refine own_st (V := T7.setTop (mkF m 123 #[.val (.int b0), .val (.int b1), .val (.int b2), .val (.int b3), .val (.int vl), .val (.int pd), .val (.ref ba), .val (.int av), .val (.int nv), .val (.int (av + nv)), .val (.int (own_ln ((ef A) &&& 255) ((ef (A + 1)) &&& 255) (ef (A + 2)) (ef (A + 3)) ((av + nv) - av))), .unset] [(.int nv), (.int ((ef (A + 3)) &&& (255 : Int32))), (.int ((ef (A + 2)) &&& (255 : Int32))), (.int ((ef (A + 1)) &&& (255 : Int32))), (.int ((ef A) &&& (255 : Int32)))])) (fun tgt k => ?_) ?_
  · show Steps p.tables e below (T7.setTop (mkF m 77 #[.val (.int b0), .val (.int b1), .val (.int b2), .val (.int b3), .val (.int vl), .val (.int pd), .val (.ref ba), .val (.int av), .val (.int nv), .val (.int (av + nv)), .unset, .unset] [(.int (own_ln ((ef A) &&& 255) ((ef (A + 1)) &&& 255) (ef (A + 2)) (ef (A + 3)) ((av + nv) - av)))])) tgt
    refine XS.istore X7.here hx rfl (hb hby at_77) rfl (l' := #[.val (.int b0), .val (.int b1), .val (.int b2), .val (.int b3), .val (.int vl), .val (.int pd), .val (.ref ba), .val (.int av), .val (.int nv), .val (.int (av + nv)), .val (.int (own_ln ((ef A) &&& 255) ((ef (A + 1)) &&& 255) (ef (A + 2)) (ef (A + 3)) ((av + nv) - av))), .unset]) rfl ?_
    show Steps p.tables e below (T7.setTop (mkF m 79 #[.val (.int b0), .val (.int b1), .val (.int b2), .val (.int b3), .val (.int vl), .val (.int pd), .val (.ref ba), .val (.int av), .val (.int nv), .val (.int (av + nv)), .val (.int (own_ln ((ef A) &&& 255) ((ef (A + 1)) &&& 255) (ef (A + 2)) (ef (A + 3)) ((av + nv) - av))), .unset] [])) tgt
    refine XS.aload X7.here hx rfl (hb hby at_79) rfl rfl ?_
    show Steps p.tables e below (T7.setTop (mkF m 81 #[.val (.int b0), .val (.int b1), .val (.int b2), .val (.int b3), .val (.int vl), .val (.int pd), .val (.ref ba), .val (.int av), .val (.int nv), .val (.int (av + nv)), .val (.int (own_ln ((ef A) &&& 255) ((ef (A + 1)) &&& 255) (ef (A + 2)) (ef (A + 3)) ((av + nv) - av))), .unset] [(.ref ba)])) tgt
    refine XS.iload X7.here hx rfl (hb hby at_81) rfl ?_
    show Steps p.tables e below (T7.setTop (mkF m 83 #[.val (.int b0), .val (.int b1), .val (.int b2), .val (.int b3), .val (.int vl), .val (.int pd), .val (.ref ba), .val (.int av), .val (.int nv), .val (.int (av + nv)), .val (.int (own_ln ((ef A) &&& 255) ((ef (A + 1)) &&& 255) (ef (A + 2)) (ef (A + 3)) ((av + nv) - av))), .unset] [(.int av), (.ref ba)])) tgt
    refine own_baload X7 hx hZ K7 Ag_ba_6 (j := av) (k := A) hA (by omega) (g := (mkF m 83 #[.val (.int b0), .val (.int b1), .val (.int b2), .val (.int b3), .val (.int vl), .val (.int pd), .val (.ref ba), .val (.int av), .val (.int nv), .val (.int (av + nv)), .val (.int (own_ln ((ef A) &&& 255) ((ef (A + 1)) &&& 255) (ef (A + 2)) (ef (A + 3)) ((av + nv) - av))), .unset] [(.int av), (.ref ba)])) rfl rfl (hb hby at_83) ?_
    show Steps p.tables e below (T7.setTop (mkF m 84 #[.val (.int b0), .val (.int b1), .val (.int b2), .val (.int b3), .val (.int vl), .val (.int pd), .val (.ref ba), .val (.int av), .val (.int nv), .val (.int (av + nv)), .val (.int (own_ln ((ef A) &&& 255) ((ef (A + 1)) &&& 255) (ef (A + 2)) (ef (A + 3)) ((av + nv) - av))), .unset] [(.int (ef A))])) tgt
    refine XS.sipush X7.here hx rfl (hb hby at_84) ?_
    show Steps p.tables e below (T7.setTop (mkF m 87 #[.val (.int b0), .val (.int b1), .val (.int b2), .val (.int b3), .val (.int vl), .val (.int pd), .val (.ref ba), .val (.int av), .val (.int nv), .val (.int (av + nv)), .val (.int (own_ln ((ef A) &&& 255) ((ef (A + 1)) &&& 255) (ef (A + 2)) (ef (A + 3)) ((av + nv) - av))), .unset] [(.int (255 : Int32)), (.int (ef A))])) tgt
    refine XS.iand X7.here hx rfl (hb hby at_87) rfl ?_
    show Steps p.tables e below (T7.setTop (mkF m 88 #[.val (.int b0), .val (.int b1), .val (.int b2), .val (.int b3), .val (.int vl), .val (.int pd), .val (.ref ba), .val (.int av), .val (.int nv), .val (.int (av + nv)), .val (.int (own_ln ((ef A) &&& 255) ((ef (A + 1)) &&& 255) (ef (A + 2)) (ef (A + 3)) ((av + nv) - av))), .unset] [(.int ((ef A) &&& (255 : Int32)))])) tgt
    refine XS.aload X7.here hx rfl (hb hby at_88) rfl rfl ?_
    show Steps p.tables e below (T7.setTop (mkF m 90 #[.val (.int b0), .val (.int b1), .val (.int b2), .val (.int b3), .val (.int vl), .val (.int pd), .val (.ref ba), .val (.int av), .val (.int nv), .val (.int (av + nv)), .val (.int (own_ln ((ef A) &&& 255) ((ef (A + 1)) &&& 255) (ef (A + 2)) (ef (A + 3)) ((av + nv) - av))), .unset] [(.ref ba), (.int ((ef A) &&& (255 : Int32)))])) tgt
    refine XS.iload X7.here hx rfl (hb hby at_90) rfl ?_
    show Steps p.tables e below (T7.setTop (mkF m 92 #[.val (.int b0), .val (.int b1), .val (.int b2), .val (.int b3), .val (.int vl), .val (.int pd), .val (.ref ba), .val (.int av), .val (.int nv), .val (.int (av + nv)), .val (.int (own_ln ((ef A) &&& 255) ((ef (A + 1)) &&& 255) (ef (A + 2)) (ef (A + 3)) ((av + nv) - av))), .unset] [(.int av), (.ref ba), (.int ((ef A) &&& (255 : Int32)))])) tgt
    refine XS.iconst X7.here hx rfl (hb hby at_92) ?_
    show Steps p.tables e below (T7.setTop (mkF m 93 #[.val (.int b0), .val (.int b1), .val (.int b2), .val (.int b3), .val (.int vl), .val (.int pd), .val (.ref ba), .val (.int av), .val (.int nv), .val (.int (av + nv)), .val (.int (own_ln ((ef A) &&& 255) ((ef (A + 1)) &&& 255) (ef (A + 2)) (ef (A + 3)) ((av + nv) - av))), .unset] [(.int (1 : Int32)), (.int av), (.ref ba), (.int ((ef A) &&& (255 : Int32)))])) tgt
    refine XS.iadd X7.here hx rfl (hb hby at_93) rfl ?_
    show Steps p.tables e below (T7.setTop (mkF m 94 #[.val (.int b0), .val (.int b1), .val (.int b2), .val (.int b3), .val (.int vl), .val (.int pd), .val (.ref ba), .val (.int av), .val (.int nv), .val (.int (av + nv)), .val (.int (own_ln ((ef A) &&& 255) ((ef (A + 1)) &&& 255) (ef (A + 2)) (ef (A + 3)) ((av + nv) - av))), .unset] [(.int (av + (1 : Int32))), (.ref ba), (.int ((ef A) &&& (255 : Int32)))])) tgt
    refine own_baload X7 hx hZ K7 Ag_ba_6 (j := (av + (1 : Int32))) (k := (A + 1)) a1 (by omega) (g := (mkF m 94 #[.val (.int b0), .val (.int b1), .val (.int b2), .val (.int b3), .val (.int vl), .val (.int pd), .val (.ref ba), .val (.int av), .val (.int nv), .val (.int (av + nv)), .val (.int (own_ln ((ef A) &&& 255) ((ef (A + 1)) &&& 255) (ef (A + 2)) (ef (A + 3)) ((av + nv) - av))), .unset] [(.int (av + (1 : Int32))), (.ref ba), (.int ((ef A) &&& (255 : Int32)))])) rfl rfl (hb hby at_94) ?_
    show Steps p.tables e below (T7.setTop (mkF m 95 #[.val (.int b0), .val (.int b1), .val (.int b2), .val (.int b3), .val (.int vl), .val (.int pd), .val (.ref ba), .val (.int av), .val (.int nv), .val (.int (av + nv)), .val (.int (own_ln ((ef A) &&& 255) ((ef (A + 1)) &&& 255) (ef (A + 2)) (ef (A + 3)) ((av + nv) - av))), .unset] [(.int (ef (A + 1))), (.int ((ef A) &&& (255 : Int32)))])) tgt
    refine XS.sipush X7.here hx rfl (hb hby at_95) ?_
    show Steps p.tables e below (T7.setTop (mkF m 98 #[.val (.int b0), .val (.int b1), .val (.int b2), .val (.int b3), .val (.int vl), .val (.int pd), .val (.ref ba), .val (.int av), .val (.int nv), .val (.int (av + nv)), .val (.int (own_ln ((ef A) &&& 255) ((ef (A + 1)) &&& 255) (ef (A + 2)) (ef (A + 3)) ((av + nv) - av))), .unset] [(.int (255 : Int32)), (.int (ef (A + 1))), (.int ((ef A) &&& (255 : Int32)))])) tgt
    refine XS.iand X7.here hx rfl (hb hby at_98) rfl ?_
    show Steps p.tables e below (T7.setTop (mkF m 99 #[.val (.int b0), .val (.int b1), .val (.int b2), .val (.int b3), .val (.int vl), .val (.int pd), .val (.ref ba), .val (.int av), .val (.int nv), .val (.int (av + nv)), .val (.int (own_ln ((ef A) &&& 255) ((ef (A + 1)) &&& 255) (ef (A + 2)) (ef (A + 3)) ((av + nv) - av))), .unset] [(.int ((ef (A + 1)) &&& (255 : Int32))), (.int ((ef A) &&& (255 : Int32)))])) tgt
    refine XS.aload X7.here hx rfl (hb hby at_99) rfl rfl ?_
    show Steps p.tables e below (T7.setTop (mkF m 101 #[.val (.int b0), .val (.int b1), .val (.int b2), .val (.int b3), .val (.int vl), .val (.int pd), .val (.ref ba), .val (.int av), .val (.int nv), .val (.int (av + nv)), .val (.int (own_ln ((ef A) &&& 255) ((ef (A + 1)) &&& 255) (ef (A + 2)) (ef (A + 3)) ((av + nv) - av))), .unset] [(.ref ba), (.int ((ef (A + 1)) &&& (255 : Int32))), (.int ((ef A) &&& (255 : Int32)))])) tgt
    refine XS.iload X7.here hx rfl (hb hby at_101) rfl ?_
    show Steps p.tables e below (T7.setTop (mkF m 103 #[.val (.int b0), .val (.int b1), .val (.int b2), .val (.int b3), .val (.int vl), .val (.int pd), .val (.ref ba), .val (.int av), .val (.int nv), .val (.int (av + nv)), .val (.int (own_ln ((ef A) &&& 255) ((ef (A + 1)) &&& 255) (ef (A + 2)) (ef (A + 3)) ((av + nv) - av))), .unset] [(.int av), (.ref ba), (.int ((ef (A + 1)) &&& (255 : Int32))), (.int ((ef A) &&& (255 : Int32)))])) tgt
    refine XS.iconst X7.here hx rfl (hb hby at_103) ?_
    show Steps p.tables e below (T7.setTop (mkF m 104 #[.val (.int b0), .val (.int b1), .val (.int b2), .val (.int b3), .val (.int vl), .val (.int pd), .val (.ref ba), .val (.int av), .val (.int nv), .val (.int (av + nv)), .val (.int (own_ln ((ef A) &&& 255) ((ef (A + 1)) &&& 255) (ef (A + 2)) (ef (A + 3)) ((av + nv) - av))), .unset] [(.int (2 : Int32)), (.int av), (.ref ba), (.int ((ef (A + 1)) &&& (255 : Int32))), (.int ((ef A) &&& (255 : Int32)))])) tgt
    refine XS.iadd X7.here hx rfl (hb hby at_104) rfl ?_
    show Steps p.tables e below (T7.setTop (mkF m 105 #[.val (.int b0), .val (.int b1), .val (.int b2), .val (.int b3), .val (.int vl), .val (.int pd), .val (.ref ba), .val (.int av), .val (.int nv), .val (.int (av + nv)), .val (.int (own_ln ((ef A) &&& 255) ((ef (A + 1)) &&& 255) (ef (A + 2)) (ef (A + 3)) ((av + nv) - av))), .unset] [(.int (av + (2 : Int32))), (.ref ba), (.int ((ef (A + 1)) &&& (255 : Int32))), (.int ((ef A) &&& (255 : Int32)))])) tgt
    refine own_baload X7 hx hZ K7 Ag_ba_6 (j := (av + (2 : Int32))) (k := (A + 2)) a2 (by omega) (g := (mkF m 105 #[.val (.int b0), .val (.int b1), .val (.int b2), .val (.int b3), .val (.int vl), .val (.int pd), .val (.ref ba), .val (.int av), .val (.int nv), .val (.int (av + nv)), .val (.int (own_ln ((ef A) &&& 255) ((ef (A + 1)) &&& 255) (ef (A + 2)) (ef (A + 3)) ((av + nv) - av))), .unset] [(.int (av + (2 : Int32))), (.ref ba), (.int ((ef (A + 1)) &&& (255 : Int32))), (.int ((ef A) &&& (255 : Int32)))])) rfl rfl (hb hby at_105) ?_
    show Steps p.tables e below (T7.setTop (mkF m 106 #[.val (.int b0), .val (.int b1), .val (.int b2), .val (.int b3), .val (.int vl), .val (.int pd), .val (.ref ba), .val (.int av), .val (.int nv), .val (.int (av + nv)), .val (.int (own_ln ((ef A) &&& 255) ((ef (A + 1)) &&& 255) (ef (A + 2)) (ef (A + 3)) ((av + nv) - av))), .unset] [(.int (ef (A + 2))), (.int ((ef (A + 1)) &&& (255 : Int32))), (.int ((ef A) &&& (255 : Int32)))])) tgt
    refine XS.sipush X7.here hx rfl (hb hby at_106) ?_
    show Steps p.tables e below (T7.setTop (mkF m 109 #[.val (.int b0), .val (.int b1), .val (.int b2), .val (.int b3), .val (.int vl), .val (.int pd), .val (.ref ba), .val (.int av), .val (.int nv), .val (.int (av + nv)), .val (.int (own_ln ((ef A) &&& 255) ((ef (A + 1)) &&& 255) (ef (A + 2)) (ef (A + 3)) ((av + nv) - av))), .unset] [(.int (255 : Int32)), (.int (ef (A + 2))), (.int ((ef (A + 1)) &&& (255 : Int32))), (.int ((ef A) &&& (255 : Int32)))])) tgt
    refine XS.iand X7.here hx rfl (hb hby at_109) rfl ?_
    show Steps p.tables e below (T7.setTop (mkF m 110 #[.val (.int b0), .val (.int b1), .val (.int b2), .val (.int b3), .val (.int vl), .val (.int pd), .val (.ref ba), .val (.int av), .val (.int nv), .val (.int (av + nv)), .val (.int (own_ln ((ef A) &&& 255) ((ef (A + 1)) &&& 255) (ef (A + 2)) (ef (A + 3)) ((av + nv) - av))), .unset] [(.int ((ef (A + 2)) &&& (255 : Int32))), (.int ((ef (A + 1)) &&& (255 : Int32))), (.int ((ef A) &&& (255 : Int32)))])) tgt
    refine XS.aload X7.here hx rfl (hb hby at_110) rfl rfl ?_
    show Steps p.tables e below (T7.setTop (mkF m 112 #[.val (.int b0), .val (.int b1), .val (.int b2), .val (.int b3), .val (.int vl), .val (.int pd), .val (.ref ba), .val (.int av), .val (.int nv), .val (.int (av + nv)), .val (.int (own_ln ((ef A) &&& 255) ((ef (A + 1)) &&& 255) (ef (A + 2)) (ef (A + 3)) ((av + nv) - av))), .unset] [(.ref ba), (.int ((ef (A + 2)) &&& (255 : Int32))), (.int ((ef (A + 1)) &&& (255 : Int32))), (.int ((ef A) &&& (255 : Int32)))])) tgt
    refine XS.iload X7.here hx rfl (hb hby at_112) rfl ?_
    show Steps p.tables e below (T7.setTop (mkF m 114 #[.val (.int b0), .val (.int b1), .val (.int b2), .val (.int b3), .val (.int vl), .val (.int pd), .val (.ref ba), .val (.int av), .val (.int nv), .val (.int (av + nv)), .val (.int (own_ln ((ef A) &&& 255) ((ef (A + 1)) &&& 255) (ef (A + 2)) (ef (A + 3)) ((av + nv) - av))), .unset] [(.int av), (.ref ba), (.int ((ef (A + 2)) &&& (255 : Int32))), (.int ((ef (A + 1)) &&& (255 : Int32))), (.int ((ef A) &&& (255 : Int32)))])) tgt
    refine XS.iconst X7.here hx rfl (hb hby at_114) ?_
    show Steps p.tables e below (T7.setTop (mkF m 115 #[.val (.int b0), .val (.int b1), .val (.int b2), .val (.int b3), .val (.int vl), .val (.int pd), .val (.ref ba), .val (.int av), .val (.int nv), .val (.int (av + nv)), .val (.int (own_ln ((ef A) &&& 255) ((ef (A + 1)) &&& 255) (ef (A + 2)) (ef (A + 3)) ((av + nv) - av))), .unset] [(.int (3 : Int32)), (.int av), (.ref ba), (.int ((ef (A + 2)) &&& (255 : Int32))), (.int ((ef (A + 1)) &&& (255 : Int32))), (.int ((ef A) &&& (255 : Int32)))])) tgt
    refine XS.iadd X7.here hx rfl (hb hby at_115) rfl ?_
    show Steps p.tables e below (T7.setTop (mkF m 116 #[.val (.int b0), .val (.int b1), .val (.int b2), .val (.int b3), .val (.int vl), .val (.int pd), .val (.ref ba), .val (.int av), .val (.int nv), .val (.int (av + nv)), .val (.int (own_ln ((ef A) &&& 255) ((ef (A + 1)) &&& 255) (ef (A + 2)) (ef (A + 3)) ((av + nv) - av))), .unset] [(.int (av + (3 : Int32))), (.ref ba), (.int ((ef (A + 2)) &&& (255 : Int32))), (.int ((ef (A + 1)) &&& (255 : Int32))), (.int ((ef A) &&& (255 : Int32)))])) tgt
    refine own_baload X7 hx hZ K7 Ag_ba_6 (j := (av + (3 : Int32))) (k := (A + 3)) a3 (by omega) (g := (mkF m 116 #[.val (.int b0), .val (.int b1), .val (.int b2), .val (.int b3), .val (.int vl), .val (.int pd), .val (.ref ba), .val (.int av), .val (.int nv), .val (.int (av + nv)), .val (.int (own_ln ((ef A) &&& 255) ((ef (A + 1)) &&& 255) (ef (A + 2)) (ef (A + 3)) ((av + nv) - av))), .unset] [(.int (av + (3 : Int32))), (.ref ba), (.int ((ef (A + 2)) &&& (255 : Int32))), (.int ((ef (A + 1)) &&& (255 : Int32))), (.int ((ef A) &&& (255 : Int32)))])) rfl rfl (hb hby at_116) ?_
    show Steps p.tables e below (T7.setTop (mkF m 117 #[.val (.int b0), .val (.int b1), .val (.int b2), .val (.int b3), .val (.int vl), .val (.int pd), .val (.ref ba), .val (.int av), .val (.int nv), .val (.int (av + nv)), .val (.int (own_ln ((ef A) &&& 255) ((ef (A + 1)) &&& 255) (ef (A + 2)) (ef (A + 3)) ((av + nv) - av))), .unset] [(.int (ef (A + 3))), (.int ((ef (A + 2)) &&& (255 : Int32))), (.int ((ef (A + 1)) &&& (255 : Int32))), (.int ((ef A) &&& (255 : Int32)))])) tgt
    refine XS.sipush X7.here hx rfl (hb hby at_117) ?_
    show Steps p.tables e below (T7.setTop (mkF m 120 #[.val (.int b0), .val (.int b1), .val (.int b2), .val (.int b3), .val (.int vl), .val (.int pd), .val (.ref ba), .val (.int av), .val (.int nv), .val (.int (av + nv)), .val (.int (own_ln ((ef A) &&& 255) ((ef (A + 1)) &&& 255) (ef (A + 2)) (ef (A + 3)) ((av + nv) - av))), .unset] [(.int (255 : Int32)), (.int (ef (A + 3))), (.int ((ef (A + 2)) &&& (255 : Int32))), (.int ((ef (A + 1)) &&& (255 : Int32))), (.int ((ef A) &&& (255 : Int32)))])) tgt
    refine XS.iand X7.here hx rfl (hb hby at_120) rfl ?_
    show Steps p.tables e below (T7.setTop (mkF m 121 #[.val (.int b0), .val (.int b1), .val (.int b2), .val (.int b3), .val (.int vl), .val (.int pd), .val (.ref ba), .val (.int av), .val (.int nv), .val (.int (av + nv)), .val (.int (own_ln ((ef A) &&& 255) ((ef (A + 1)) &&& 255) (ef (A + 2)) (ef (A + 3)) ((av + nv) - av))), .unset] [(.int ((ef (A + 3)) &&& (255 : Int32))), (.int ((ef (A + 2)) &&& (255 : Int32))), (.int ((ef (A + 1)) &&& (255 : Int32))), (.int ((ef A) &&& (255 : Int32)))])) tgt
    refine XS.iload X7.here hx rfl (hb hby at_121) rfl ?_
    exact k
  obtain ⟨_, _, ⟨T8, L8, k8, n8⟩, -, X8, ⟨Lc8, hQ8, l8, y8, z8⟩, st8⟩ := Jvm.LawKit.callS X7 hx (y := (⟨"com/example/headwater/headwater/connectors/format/JsonRecordUtf8LengthPinLaw", "expected", "(IIIII)I"⟩ : MethodName)) hown (mvT hZ (hw _ (List.mem_of_getElem? (i := 6) rfl))) (mvT hZ (hw _ (List.mem_of_getElem? (i := 7) rfl))) (mvT hZ (hw _ (List.mem_of_getElem? (i := 8) rfl))) (mvT hZ (hw _ (List.mem_of_getElem? (i := 9) rfl))) (by decide) (backOf (W := 0) (rm2 l Z a0 hw [] ((ef A) &&& (255 : Int32)) ((ef (A + 1)) &&& (255 : Int32)) ((ef (A + 2)) &&& (255 : Int32)) ((ef (A + 3)) &&& (255 : Int32)) nv h5 n0 Zs5 ) hZ (hw _ (List.mem_of_getElem? (i := 9) rfl)) (hw _ (List.mem_of_getElem? (i := 8) rfl)) (by decide) (by decide)) (g := (mkF m 123 #[.val (.int b0), .val (.int b1), .val (.int b2), .val (.int b3), .val (.int vl), .val (.int pd), .val (.ref ba), .val (.int av), .val (.int nv), .val (.int (av + nv)), .val (.int (own_ln ((ef A) &&& 255) ((ef (A + 1)) &&& 255) (ef (A + 2)) (ef (A + 3)) ((av + nv) - av))), .unset] [(.int nv), (.int ((ef (A + 3)) &&& (255 : Int32))), (.int ((ef (A + 2)) &&& (255 : Int32))), (.int ((ef (A + 1)) &&& (255 : Int32))), (.int ((ef A) &&& (255 : Int32)))])) rfl (by rw [hml]; rfl) (argsL := [(.int ((ef A) &&& (255 : Int32))), (.int ((ef (A + 1)) &&& (255 : Int32))), (.int ((ef (A + 2)) &&& (255 : Int32))), (.int ((ef (A + 3)) &&& (255 : Int32))), (.int nv)]) (rest := []) (lenOf pd_0_1 rfl) rfl (by show 2 * 0 + _ ≤ _; exact Nat.le_of_eq rfl) (hb hby at_123) (fun _ _ => ⟨rfl, K7, (by decide : 1 + 0 ≤ _), (by decide : 8 + 0 ≤ _)⟩)
  dsimp only [Pt.U, Pt.locs, Pt.cells, Pt.slots] at X8 l8 y8 z8 st8 hQ8
  subst l8 y8 z8
  obtain ⟨rfl, N8q, K8⟩ := hQ8
  have N8 := Fr.app N7 N8q
  refine own_st st8 ?_
  show own_Go p e below _ (T8.setTop (mkF m 126 #[.val (.int b0), .val (.int b1), .val (.int b2), .val (.int b3), .val (.int vl), .val (.int pd), .val (.ref ba), .val (.int av), .val (.int nv), .val (.int (av + nv)), .val (.int (own_ln ((ef A) &&& 255) ((ef (A + 1)) &&& 255) (ef (A + 2)) (ef (A + 3)) ((av + nv) - av))), .unset] [(.int (own_ex ((ef A) &&& (255 : Int32)) ((ef (A + 1)) &&& (255 : Int32)) ((ef (A + 2)) &&& (255 : Int32)) ((ef (A + 3)) &&& (255 : Int32)) nv))]))
  refine own_st (V := T8.setTop (mkF m 140 #[.val (.int b0), .val (.int b1), .val (.int b2), .val (.int b3), .val (.int vl), .val (.int pd), .val (.ref ba), .val (.int av), .val (.int nv), .val (.int (av + nv)), .val (.int (own_ln ((ef A) &&& 255) ((ef (A + 1)) &&& 255) (ef (A + 2)) (ef (A + 3)) ((av + nv) - av))), .val (.int (own_ex ((ef A) &&& (255 : Int32)) ((ef (A + 1)) &&& (255 : Int32)) ((ef (A + 2)) &&& (255 : Int32)) ((ef (A + 3)) &&& (255 : Int32)) nv))] [(.int (1 : Int32))])) (fun tgt k => ?_) ?_
  · show Steps p.tables e below (T8.setTop (mkF m 126 #[.val (.int b0), .val (.int b1), .val (.int b2), .val (.int b3), .val (.int vl), .val (.int pd), .val (.ref ba), .val (.int av), .val (.int nv), .val (.int (av + nv)), .val (.int (own_ln ((ef A) &&& 255) ((ef (A + 1)) &&& 255) (ef (A + 2)) (ef (A + 3)) ((av + nv) - av))), .unset] [(.int (own_ex ((ef A) &&& (255 : Int32)) ((ef (A + 1)) &&& (255 : Int32)) ((ef (A + 2)) &&& (255 : Int32)) ((ef (A + 3)) &&& (255 : Int32)) nv))])) tgt
    refine XS.istore X8.here hx rfl (hb hby at_126) rfl (l' := #[.val (.int b0), .val (.int b1), .val (.int b2), .val (.int b3), .val (.int vl), .val (.int pd), .val (.ref ba), .val (.int av), .val (.int nv), .val (.int (av + nv)), .val (.int (own_ln ((ef A) &&& 255) ((ef (A + 1)) &&& 255) (ef (A + 2)) (ef (A + 3)) ((av + nv) - av))), .val (.int (own_ex ((ef A) &&& (255 : Int32)) ((ef (A + 1)) &&& (255 : Int32)) ((ef (A + 2)) &&& (255 : Int32)) ((ef (A + 3)) &&& (255 : Int32)) nv))]) rfl ?_
    show Steps p.tables e below (T8.setTop (mkF m 128 #[.val (.int b0), .val (.int b1), .val (.int b2), .val (.int b3), .val (.int vl), .val (.int pd), .val (.ref ba), .val (.int av), .val (.int nv), .val (.int (av + nv)), .val (.int (own_ln ((ef A) &&& 255) ((ef (A + 1)) &&& 255) (ef (A + 2)) (ef (A + 3)) ((av + nv) - av))), .val (.int (own_ex ((ef A) &&& (255 : Int32)) ((ef (A + 1)) &&& (255 : Int32)) ((ef (A + 2)) &&& (255 : Int32)) ((ef (A + 3)) &&& (255 : Int32)) nv))] [])) tgt
    refine XS.iload X8.here hx rfl (hb hby at_128) rfl ?_
    show Steps p.tables e below (T8.setTop (mkF m 130 #[.val (.int b0), .val (.int b1), .val (.int b2), .val (.int b3), .val (.int vl), .val (.int pd), .val (.ref ba), .val (.int av), .val (.int nv), .val (.int (av + nv)), .val (.int (own_ln ((ef A) &&& 255) ((ef (A + 1)) &&& 255) (ef (A + 2)) (ef (A + 3)) ((av + nv) - av))), .val (.int (own_ex ((ef A) &&& (255 : Int32)) ((ef (A + 1)) &&& (255 : Int32)) ((ef (A + 2)) &&& (255 : Int32)) ((ef (A + 3)) &&& (255 : Int32)) nv))] [(.int (own_ln ((ef A) &&& 255) ((ef (A + 1)) &&& 255) (ef (A + 2)) (ef (A + 3)) ((av + nv) - av)))])) tgt
    refine XS.iload X8.here hx rfl (hb hby at_130) rfl ?_
    show Steps p.tables e below (T8.setTop (mkF m 132 #[.val (.int b0), .val (.int b1), .val (.int b2), .val (.int b3), .val (.int vl), .val (.int pd), .val (.ref ba), .val (.int av), .val (.int nv), .val (.int (av + nv)), .val (.int (own_ln ((ef A) &&& 255) ((ef (A + 1)) &&& 255) (ef (A + 2)) (ef (A + 3)) ((av + nv) - av))), .val (.int (own_ex ((ef A) &&& (255 : Int32)) ((ef (A + 1)) &&& (255 : Int32)) ((ef (A + 2)) &&& (255 : Int32)) ((ef (A + 3)) &&& (255 : Int32)) nv))] [(.int (own_ex ((ef A) &&& (255 : Int32)) ((ef (A + 1)) &&& (255 : Int32)) ((ef (A + 2)) &&& (255 : Int32)) ((ef (A + 3)) &&& (255 : Int32)) nv)), (.int (own_ln ((ef A) &&& 255) ((ef (A + 1)) &&& 255) (ef (A + 2)) (ef (A + 3)) ((av + nv) - av)))])) tgt
    refine XS.icmpNo X8.here hx rfl (hb hby at_132) rfl (teq (by rw [own_can32]; exact own_fin _ _ _ _ _)).2 ?_
    show Steps p.tables e below (T8.setTop (mkF m 135 #[.val (.int b0), .val (.int b1), .val (.int b2), .val (.int b3), .val (.int vl), .val (.int pd), .val (.ref ba), .val (.int av), .val (.int nv), .val (.int (av + nv)), .val (.int (own_ln ((ef A) &&& 255) ((ef (A + 1)) &&& 255) (ef (A + 2)) (ef (A + 3)) ((av + nv) - av))), .val (.int (own_ex ((ef A) &&& (255 : Int32)) ((ef (A + 1)) &&& (255 : Int32)) ((ef (A + 2)) &&& (255 : Int32)) ((ef (A + 3)) &&& (255 : Int32)) nv))] [])) tgt
    refine XS.iconst X8.here hx rfl (hb hby at_135) ?_
    show Steps p.tables e below (T8.setTop (mkF m 136 #[.val (.int b0), .val (.int b1), .val (.int b2), .val (.int b3), .val (.int vl), .val (.int pd), .val (.ref ba), .val (.int av), .val (.int nv), .val (.int (av + nv)), .val (.int (own_ln ((ef A) &&& 255) ((ef (A + 1)) &&& 255) (ef (A + 2)) (ef (A + 3)) ((av + nv) - av))), .val (.int (own_ex ((ef A) &&& (255 : Int32)) ((ef (A + 1)) &&& (255 : Int32)) ((ef (A + 2)) &&& (255 : Int32)) ((ef (A + 3)) &&& (255 : Int32)) nv))] [(.int (1 : Int32))])) tgt
    refine XS.goto X8.here hx rfl (pc0 := 136) (pc' := 140) rfl (hb hby at_136) (by decide) (by decide) ?_
    exact k
  refine own_retN X8 hx hlk (t := .boolean) (z' := (1 : Int32)) Bd.returns (by simp) rfl (hb hby at_140) ?_ (by decide) (by decide)
  show Q0 Z b0 b1 b2 b3 vl pd h0 n0 (some (.int (1 : Int32))) T8.heap _
  rw [K8]
  exact ⟨rfl, N8⟩
set_option maxRecDepth 65536 in
set_option maxHeartbeats 40000000 in
theorem comes_1 {Post : Tables → Env → Array Value → State → Outcome → State → Prop} (hpost : ∀ tb e args s v u, (limb_1_1.after args s (.returned v) u = true ∧ limb_1_2.after args s (.returned v) u = true ∧ True) → FrameEnd s (.returned v) u (Jvm.fieldLocs frame_1_writes args s ++ Jvm.arrayLocs frame_1_arrays args s ++ Jvm.staticLocs frame_1_statics s) 16 128 → Post tb e args s (.returned v) u) :
    ArmFor flags0 classFile x code maxLocals ret World_1 tables_1 room_1 Calls_1 rest_1 Pre_1 Post := by
  intro l hfl _ _ p e ha hc hk s m args below hf hA hF happ hP
  obtain ⟨hcalls, hrest, hpre⟩ := hP
  obtain ⟨-, -, -, hnamed, -, -, -, hat⟩ := (Spec.applies_iff hf).mp happ
  obtain ⟨hg, hn⟩ := and_e (Cond.before_iff.mp (show (Jvm.Cond.and given_1 narrow_1).before args s = true from hpre))
  obtain ⟨hcount, g0⟩ := and_e hg
  obtain ⟨a0, g1⟩ := and_e g0
  obtain ⟨a1, g2⟩ := and_e g1
  obtain ⟨a2, g3⟩ := and_e g2
  obtain ⟨a3, g4⟩ := and_e g3
  obtain ⟨a4, g5⟩ := and_e g4
  have a5 := g5
  obtain ⟨w0, w1, w2, w3, w4, w5, rfl⟩ : ∃ w0 w1 w2 w3 w4 w5 : Value, args = #[w0, w1, w2, w3, w4, w5] := by
    have hs : args.size = 6 := by simpa [Cond.value, given_1] using hcount
    obtain ⟨L⟩ := args
    match L, hs with
    | [w0, w1, w2, w3, w4, w5], _ => exact ⟨w0, w1, w2, w3, w4, w5, rfl⟩
  have hw := fun d (hd : d ∈ tables_1) => atoms_spec (ws := Jvm.Cond.code x code maxLocals ret :: tables_1) hat d (List.mem_cons_of_mem _ hd)
  obtain ⟨i0, ei0⟩ := is_v a0
  obtain rfl : w0 = (.int i0) := Option.some.inj ei0
  obtain ⟨i1, ei1⟩ := is_v a1
  obtain rfl : w1 = (.int i1) := Option.some.inj ei1
  obtain ⟨i2, ei2⟩ := is_v a2
  obtain rfl : w2 = (.int i2) := Option.some.inj ei2
  obtain ⟨i3, ei3⟩ := is_v a3
  obtain rfl : w3 = (.int i3) := Option.some.inj ei3
  obtain ⟨i4, ei4⟩ := is_v a4
  obtain rfl : w4 = (.int i4) := Option.some.inj ei4
  obtain ⟨i5, ei5⟩ := is_v a5
  obtain rfl : w5 = (.int i5) := Option.some.inj ei5
  obtain ⟨n, o, h1, h2, h3, _, L, rfl, ⟨rfl, N⟩, hq⟩ := rm0 l s _ hw tables_1 i0 i1 i2 i3 i4 i5 s.heap s.heap.size (Nat.le_refl _) p e ha hc hk s m _ below hf ((Spec.applies_iff_loose hf).mp happ).1 ⟨rfl, State.Warmed39.refl s, rfl⟩ trivial
  refine ⟨n, _, h1, h2, h3, hpost _ _ _ _ _ _ ⟨Cond.after_iff.mpr rfl, Cond.after_iff.mpr (eq_i res_at (Term.int_eval (1)) rfl), trivial⟩ ⟨hq.1, hq.2.1, (hq.2.2.sift fun y hy => Or.inr (N y hy)).mono (by decide) (by decide)⟩⟩
theorem main_1_1 : Claimed_1_1 := comes_1 fun _ _ _ _ _ _ h hF => ⟨h.1, hF⟩
theorem main_1_2 : Claimed_1_2 := comes_1 fun _ _ _ _ _ _ h hF => ⟨h.2.1, hF⟩
end Jvm.Pilot.@@N@@
namespace Jvm.Pilot.@@N@@
open Jvm Jvm.ClassFile Sem Op Lib Jvm.Free Jvm.Stand Jvm.Pilot.@@N@@.Jvm.D
/-! MADE BY PROGRAM (witnessworld.py) out of the Statement's table words and the real class files: 9 classes; the members and pool entries that the words name. The judged class is class 1, her method 1. -/
namespace start1
open Jvm.ClassFile
def u (s : String) : CpInfo := .utf8 (stringToUtf16 s)
/-- a pool by its gaps: so many unusable entries, then the entry; so many at the end -/
def gap : Nat → List CpInfo → List CpInfo
  | 0, r => r
  | n + 1, r => .unusable :: gap n r
def poolList (es : List (Nat × CpInfo)) (last : Nat) : List CpInfo := es.foldr (fun e r => gap e.1 (e.2 :: r)) (gap last [])
def pool (es : List (Nat × CpInfo)) (last : Nat) : Array CpInfo := ⟨poolList es last⟩
def fileOf (pool : Array CpInfo) (this : Nat) (attrs : Array Attribute := #[]) (ms : Array MethodInfo := #[]) (fl : Nat := 33) (sup : Nat := 0) (ifs : Array Nat := #[]) (fds : Array FieldInfo := #[]) : ClassFile where
  minorVersion := 0
  majorVersion := 65
  constantPool := pool
  accessFlags := fl
  thisClass := this
  superClass := sup
  interfaces := ifs
  fields := fds
  methods := ms
  attributes := attrs
def plain (name : String) (sup : Option ClassId) : Class where
  name := name
  kind := .ordinary
  loader := none
  accessFlags := 33
  super := sup
  interfaces := #[]
  cf := none
  fields := #[]
  methods := #[]
  instanceTypes := #[]
  staticTypes := #[]
  resolved := #[]
  callSites := []
  init := .initialized
  statics := none
  mirror := none

def pool0 : Array CpInfo := pool [(5, u "<init>"), (0, u "()V"), (1, .class_ 10), (1, u "java/lang/Object")] 113

def k0m0 : Method := { name := "<init>", desc := "()V", sig := { parameters := [], returnType := none }, accessFlags := 1, code := none }
/-- java/lang/Object -/
def k0 : Class := { plain "java/lang/Object" none with
  accessFlags := 33
  interfaces := #[]
  cf := some (fileOf pool0 8 #[] #[{ accessFlags := 1, nameIndex := 5, descriptorIndex := 6, attributes := #[] }] 33 0 #[] #[])
  fields := #[]
  methods := #[k0m0]
  instanceTypes := #[]
  staticTypes := #[]
  resolved := Array.replicate 124 none
  statics := none }

def pool1 : Array CpInfo := pool [(2, .class_ 4), (1, u "java/lang/Object"), (0, u "<init>"), (0, u "()V"), (0, .integer 2147483647), (0, .methodref 9 10), (0, .class_ 11), (0, .nameAndType 12 13), (0, u "com/example/headwater/headwater/connectors/format/JsonRecord"), (0, u "utf8Length"), (0, u "([BII)I"), (0, .methodref 15 16), (0, .class_ 17), (0, .nameAndType 18 19), (0, u "com/example/headwater/headwater/connectors/format/JsonRecordUtf8LengthPinLaw"), (0, u "expected"), (0, u "(IIIII)I"), (0, .methodref 15 21), (0, .nameAndType 22 23), (0, u "cont"), (0, u "(I)Z"), (0, .integer 55296), (0, .integer 57343), (0, .integer 65536), (0, .integer 1114111), (2, u "law"), (0, u "(IIIIII)Z")] 5

def k1m0 : Method := { name := "<init>", desc := "()V", sig := { parameters := [], returnType := none }, accessFlags := 1, code := none }
def k1c1 : Code := { maxStack := 6, maxLocals := 12, code := code, exceptionTable := #[], attributes := #[] }
def k1m1 : Method := { name := "law", desc := "(IIIIII)Z", sig := { parameters := [.int, .int, .int, .int, .int, .int], returnType := some .boolean }, accessFlags := 9, code := some k1c1 }
def k1c2 : Code := { maxStack := 2, maxLocals := 1, code := method_3_code, exceptionTable := #[], attributes := #[] }
def k1m2 : Method := { name := "cont", desc := "(I)Z", sig := { parameters := [.int], returnType := some .boolean }, accessFlags := 10, code := some k1c2 }
def k1c3 : Code := { maxStack := 3, maxLocals := 7, code := method_4_code, exceptionTable := #[], attributes := #[] }
def k1m3 : Method := { name := "expected", desc := "(IIIII)I", sig := { parameters := [.int, .int, .int, .int, .int], returnType := some .int }, accessFlags := 10, code := some k1c3 }
/-- com/example/headwater/headwater/connectors/format/JsonRecordUtf8LengthPinLaw -/
def k1 : Class := { plain "com/example/headwater/headwater/connectors/format/JsonRecordUtf8LengthPinLaw" (some 0) with
  accessFlags := 49
  interfaces := #[]
  cf := some (fileOf pool1 15 #[] #[{ accessFlags := 1, nameIndex := 5, descriptorIndex := 6, attributes := #[] }, { accessFlags := 9, nameIndex := 30, descriptorIndex := 31, attributes := #[] }, { accessFlags := 10, nameIndex := 22, descriptorIndex := 23, attributes := #[] }, { accessFlags := 10, nameIndex := 18, descriptorIndex := 19, attributes := #[] }] 49 2 #[] #[])
  fields := #[]
  methods := #[k1m0, k1m1, k1m2, k1m3]
  instanceTypes := #[]
  staticTypes := #[]
  resolved := Array.replicate 37 none
  statics := none }

def pool2 : Array CpInfo := pool [(6, .class_ 8), (1, u "com/example/headwater/headwater/connectors/format/JsonRecord"), (0, u "<init>"), (8, .class_ 20), (1, u "java/lang/Object"), (0, u "()V"), (4, u "decimal"), (0, u "[B"), (2, u "bound"), (0, u "I"), (2, u "subject"), (0, u "Ljava/util/function/Supplier;"), (2, u "bytes"), (49, u "length"), (20, u "NULL"), (5, u "TRUE"), (2, u "FALSE"), (44, u "([BII)I"), (15, u "ESCAPES"), (0, u "[[B"), (2, u "utf8Length"), (2, u "LONGS"), (0, u "Ljava/lang/invoke/VarHandle;"), (82, u "INFINITY"), (2, u "NEGATIVE_INFINITY"), (2, u "NAN"), (43, u "INITIAL_CAPACITY")] 56

def k2m0 : Method := { name := "<init>", desc := "()V", sig := { parameters := [], returnType := none }, accessFlags := 0, code := none }
def k2c1 : Code := { maxStack := 3, maxLocals := 9, code := prog_48_method_35_code, exceptionTable := #[], attributes := #[] }
def k2m1 : Method := { name := "utf8Length", desc := "([BII)I", sig := { parameters := [(.array .byte), .int, .int], returnType := some .int }, accessFlags := 8, code := some k2c1 }
/-- com/example/headwater/headwater/connectors/format/JsonRecord -/
def k2 : Class := { plain "com/example/headwater/headwater/connectors/format/JsonRecord" (some 0) with
  accessFlags := 48
  interfaces := #[]
  cf := some (fileOf pool2 6 #[] #[{ accessFlags := 0, nameIndex := 9, descriptorIndex := 21, attributes := #[] }, { accessFlags := 8, nameIndex := 183, descriptorIndex := 163, attributes := #[] }] 48 18 #[] #[{ accessFlags := 24, nameIndex := 320, descriptorIndex := 31, attributes := #[] }, { accessFlags := 26, nameIndex := 179, descriptorIndex := 180, attributes := #[] }, { accessFlags := 26, nameIndex := 186, descriptorIndex := 187, attributes := #[] }, { accessFlags := 26, nameIndex := 115, descriptorIndex := 27, attributes := #[] }, { accessFlags := 26, nameIndex := 118, descriptorIndex := 27, attributes := #[] }, { accessFlags := 26, nameIndex := 109, descriptorIndex := 27, attributes := #[] }, { accessFlags := 26, nameIndex := 276, descriptorIndex := 27, attributes := #[] }, { accessFlags := 26, nameIndex := 270, descriptorIndex := 27, attributes := #[] }, { accessFlags := 26, nameIndex := 273, descriptorIndex := 27, attributes := #[] }, { accessFlags := 18, nameIndex := 30, descriptorIndex := 31, attributes := #[] }, { accessFlags := 18, nameIndex := 34, descriptorIndex := 35, attributes := #[] }, { accessFlags := 2, nameIndex := 38, descriptorIndex := 27, attributes := #[] }, { accessFlags := 2, nameIndex := 88, descriptorIndex := 31, attributes := #[] }, { accessFlags := 18, nameIndex := 26, descriptorIndex := 27, attributes := #[] }])
  fields := #[{ name := "INITIAL_CAPACITY", type := .int, accessFlags := 24, slot := 0, constantValue := 0 }, { name := "ESCAPES", type := (.array (.array .byte)), accessFlags := 26, slot := 1, constantValue := 0 }, { name := "LONGS", type := (.object "java/lang/invoke/VarHandle"), accessFlags := 26, slot := 2, constantValue := 0 }, { name := "TRUE", type := (.array .byte), accessFlags := 26, slot := 3, constantValue := 0 }, { name := "FALSE", type := (.array .byte), accessFlags := 26, slot := 4, constantValue := 0 }, { name := "NULL", type := (.array .byte), accessFlags := 26, slot := 5, constantValue := 0 }, { name := "NAN", type := (.array .byte), accessFlags := 26, slot := 6, constantValue := 0 }, { name := "INFINITY", type := (.array .byte), accessFlags := 26, slot := 7, constantValue := 0 }, { name := "NEGATIVE_INFINITY", type := (.array .byte), accessFlags := 26, slot := 8, constantValue := 0 }, { name := "bound", type := .int, accessFlags := 18, slot := 0, constantValue := 0 }, { name := "subject", type := (.object "java/util/function/Supplier"), accessFlags := 18, slot := 1, constantValue := 0 }, { name := "bytes", type := (.array .byte), accessFlags := 2, slot := 2, constantValue := 0 }, { name := "length", type := .int, accessFlags := 2, slot := 3, constantValue := 0 }, { name := "decimal", type := (.array .byte), accessFlags := 18, slot := 4, constantValue := 0 }]
  methods := #[k2m0, k2m1]
  instanceTypes := #[.int, (.object "java/util/function/Supplier"), (.array .byte), .int, (.array .byte)]
  staticTypes := #[.int, (.array (.array .byte)), (.object "java/lang/invoke/VarHandle"), (.array .byte), (.array .byte), (.array .byte), (.array .byte), (.array .byte), (.array .byte)]
  resolved := Array.replicate 377 none
  statics := none }

def pool3 : Array CpInfo := pool [(1, u "java/lang/Cloneable"), (0, .class_ 1), (0, u "java/lang/Object"), (0, .class_ 3)] 3

/-- java/lang/Cloneable -/
def k3 : Class := { plain "java/lang/Cloneable" (some 0) with
  accessFlags := 1537
  interfaces := #[]
  cf := some (fileOf pool3 2 #[] #[] 1537 4 #[] #[])
  fields := #[]
  methods := #[]
  instanceTypes := #[]
  staticTypes := #[]
  resolved := Array.replicate 8 none
  statics := none }

def pool4 : Array CpInfo := pool [(1, u "java/io/Serializable"), (0, .class_ 1), (0, u "java/lang/Object"), (0, .class_ 3)] 3

/-- java/io/Serializable -/
def k4 : Class := { plain "java/io/Serializable" (some 0) with
  accessFlags := 1537
  interfaces := #[]
  cf := some (fileOf pool4 2 #[] #[] 1537 4 #[] #[])
  fields := #[]
  methods := #[]
  instanceTypes := #[]
  staticTypes := #[]
  resolved := Array.replicate 8 none
  statics := none }

/-- the primitive byte -/
def k5 : Class := { plain "byte" none with kind := .primitive 'B', accessFlags := 0x411 }
/-- [B -/
def k6 : Class := { plain "[B" (some 0) with kind := .array 5 .byte, interfaces := #[3, 4], accessFlags := 1041 }

/-- the primitive int -/
def k7 : Class := { plain "int" none with kind := .primitive 'I', accessFlags := 0x411 }
/-- [I -/
def k8 : Class := { plain "[I" (some 0) with kind := .array 7 .int, interfaces := #[3, 4], accessFlags := 1041 }

def heap : Heap := #[]
def classes : Array Class := #[k0, k1, k2, k3, k4, k5, k6, k7, k8]
def interned : List (Array UInt16 × Addr) := []
def slotsUsed : Nat := 0
def theMethod : MethodId := ⟨1, 1⟩
def args0 : Array Value := #[.int 5, .int 3, .int 3, .int 1, .int 2, .int 2]
def aboutOver (below : List Frame) : State where
  vm := { classes := classes, interned := interned.toArray }
  heap := heap
  slotsUsed := slotsUsed
  threads := #[{ frames := .invoking theMethod args0 :: below }]
def below0 : List Frame := [.native { method := ⟨0, 0⟩, args := #[] }]
def about1 : State := aboutOver below0
def p0 : Program := .bare "" "" ""
def e0 : Env := launch0.env 0 0 0
theorem w_frames : about1.frames = Frame.invoking theMethod args0 :: below0 := rfl
set_option maxRecDepth 65536 in
theorem w_args : argsFit about1.vm theMethod args0 = true := by decide +kernel
set_option maxRecDepth 65536 in
theorem w_heap : heapFits about1 = true := by decide +kernel
set_option maxRecDepth 65536 in
theorem w_runnable : about1.curStatus? = some .runnable := by decide +kernel
set_option maxRecDepth 65536 in
theorem w_alone : about1.alone = true := by decide +kernel
set_option maxRecDepth 65536 in
theorem w_named : about1.methodNamed? x = some theMethod := by decide +kernel
set_option maxRecDepth 65536 in
theorem w_hears : about1.hears theMethod below0 = true := by decide +kernel
set_option maxRecDepth 65536 in
theorem w_ripe : about1.ripe theMethod args0 below0 = true := by decide +kernel
theorem w_running : about1.status = .running := rfl
set_option maxRecDepth 65536 in
theorem w_room : about1.hasRoom e0.platform room_1 = true :=
  launch0.hasRoom_least _ room_1 (by decide +kernel) (by decide +kernel) (by decide +kernel) (by decide +kernel) (by decide +kernel) (by decide +kernel)
theorem allAtoms_all (ts : List Jvm.Cond) (a : Array Jvm.Value) (st : Jvm.State) : (allAtoms ts).before a st = ts.all (fun c => c.before a st) := by
  induction ts with
  | nil => rfl
  | cons c t ih =>
    show (Jvm.Cond.and c (allAtoms t)).before a st = _
    rw [Jvm.Cond.before_and, ih, List.all_cons]
def words1 : List Jvm.Cond := Jvm.Cond.code x code maxLocals ret :: tables_1
/-- a 'code' word, met by the world's own term for the bytes: nothing is compared byte by byte -/
theorem code_word {y : MethodName} {bytes : ByteArray} {mx : Nat} {rt : Option FieldType} {a : Array Value} {s : State} {m : MethodId} {meth : Method} {c : Code} (h1 : s.methodNamed? y = some m) (h2 : s.vm.method? m = some meth) (h3 : meth.code = some c) (h4 : c.code = bytes)
    (h5 : (c.maxLocals == mx && c.exceptionTable.isEmpty && decide (c.maxStack ≤ mostOperands) && decide (meth.sig.returnType = rt) && !meth.locks && decide (parseMethodDescriptor y.desc = some meth.sig)) = true) : (Jvm.Cond.code y bytes mx rt).before a s = true := by
  simp only [Bool.and_eq_true, beq_iff_eq, Bool.not_eq_true', decide_eq_true_eq] at h5
  obtain ⟨⟨⟨⟨⟨g1, g2⟩, g3⟩, g4⟩, g5⟩, g6⟩ := h5
  simp [Cond.before, Cond.holds, Cond.value, h1, h2, h3, h4, g1, g2, g3, g4, g5, g6]
def isCode : Jvm.Cond → Bool
  | .code _ _ _ _ => true
  | _ => false
theorem all_split {L : List Jvm.Cond} {P : Jvm.Cond → Bool} (h1 : L.all (fun c => isCode c || P c) = true) (h2 : ∀ c ∈ L.filter isCode, P c = true) : L.all P = true := by
  refine List.all_eq_true.mpr fun c hc => ?_
  have h := List.all_eq_true.mp h1 c hc
  rcases Bool.eq_false_or_eq_true (isCode c) with hi | hi
  · exact h2 c (List.mem_filter.mpr ⟨hc, hi⟩)
  · simpa [hi] using h
set_option maxRecDepth 65536 in
theorem w_c0 : (Jvm.Cond.code x code maxLocals ret).before args0 about1 = true := code_word (m := ⟨1, 1⟩) (meth := k1m1) (c := k1c1) (by decide +kernel) rfl rfl rfl (by decide +kernel)
set_option maxRecDepth 65536 in
theorem w_c1 : (Jvm.Cond.code ({ cls := "com/example/headwater/headwater/connectors/format/JsonRecord", name := "utf8Length", desc := "([BII)I" } : Jvm.MethodName) prog_48_method_35_code (9 : Nat) (Option.some Jvm.ClassFile.FieldType.int)).before args0 about1 = true := code_word (m := ⟨2, 1⟩) (meth := k2m1) (c := k2c1) (by decide +kernel) rfl rfl rfl (by decide +kernel)
set_option maxRecDepth 65536 in
theorem w_c2 : (Jvm.Cond.code ({ cls := "com/example/headwater/headwater/connectors/format/JsonRecordUtf8LengthPinLaw", name := "expected", desc := "(IIIII)I" } : Jvm.MethodName) method_4_code (7 : Nat) (Option.some Jvm.ClassFile.FieldType.int)).before args0 about1 = true := code_word (m := ⟨1, 3⟩) (meth := k1m3) (c := k1c3) (by decide +kernel) rfl rfl rfl (by decide +kernel)
set_option maxRecDepth 65536 in
theorem w_c3 : (Jvm.Cond.code ({ cls := "com/example/headwater/headwater/connectors/format/JsonRecordUtf8LengthPinLaw", name := "cont", desc := "(I)Z" } : Jvm.MethodName) method_3_code (1 : Nat) (Option.some Jvm.ClassFile.FieldType.boolean)).before args0 about1 = true := code_word (m := ⟨1, 2⟩) (meth := k1m2) (c := k1c2) (by decide +kernel) rfl rfl rfl (by decide +kernel)
def codes1 : List Jvm.Cond := [Jvm.Cond.code x code maxLocals ret, Jvm.Cond.code ({ cls := "com/example/headwater/headwater/connectors/format/JsonRecord", name := "utf8Length", desc := "([BII)I" } : Jvm.MethodName) prog_48_method_35_code (9 : Nat) (Option.some Jvm.ClassFile.FieldType.int), Jvm.Cond.code ({ cls := "com/example/headwater/headwater/connectors/format/JsonRecordUtf8LengthPinLaw", name := "expected", desc := "(IIIII)I" } : Jvm.MethodName) method_4_code (7 : Nat) (Option.some Jvm.ClassFile.FieldType.int), Jvm.Cond.code ({ cls := "com/example/headwater/headwater/connectors/format/JsonRecordUtf8LengthPinLaw", name := "cont", desc := "(I)Z" } : Jvm.MethodName) method_3_code (1 : Nat) (Option.some Jvm.ClassFile.FieldType.boolean)]
set_option maxRecDepth 65536 in
theorem codes_eq : words1.filter isCode = codes1 := rfl
theorem w_codes : ∀ c ∈ words1.filter isCode, c.before args0 about1 = true := by
  rw [codes_eq]
  intro c hc
  simp only [codes1, List.mem_cons, List.not_mem_nil, or_false] at hc
  rcases hc with rfl | rfl | rfl | rfl
  · exact w_c0
  · exact w_c1
  · exact w_c2
  · exact w_c3
set_option maxRecDepth 65536 in
theorem w_t1 : words1.all (fun c => isCode c || c.before args0 about1) = true := by decide +kernel
theorem w_tables : (allAtoms (Jvm.Cond.code x code maxLocals ret :: tables_1)).before args0 about1 = true := by
  rw [allAtoms_all]
  show words1.all (fun c => c.before args0 about1) = true
  refine all_split ?_ w_codes
  rw [w_t1]
set_option maxRecDepth 65536 in
theorem w_case : (Jvm.Cond.and given_1 narrow_1).before args0 about1 = true := by decide +kernel
theorem w_applies : (headSpec (Jvm.Cond.code x code maxLocals ret :: tables_1) room_1).applies x e0.platform about1 = true :=
  (Spec.applies_iff w_frames).mpr ⟨w_running, w_runnable, w_alone, w_named, w_hears, w_ripe, w_room, w_tables⟩
theorem atStart : AtStart classFile x code maxLocals ret World_1 tables_1 room_1 Calls_1 rest_1 Pre_1 launch0 p0 e0 about1 theMethod args0 below0 :=
  ⟨lists_1, trivial, launch0.admits_env _ _ _, launch0.least_env, fairChoices_fair.cas, fairChoices_fair.clock, w_frames, w_args, w_heap, w_applies, trivial, trivial, w_case⟩
end start1
theorem witness_1 : WitnessClaimed_1 := ⟨start1.p0, start1.e0, start1.about1, start1.theMethod, start1.args0, start1.below0, start1.atStart⟩
end Jvm.Pilot.@@N@@
