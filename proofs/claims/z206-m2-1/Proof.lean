import JvmDerived
import JvmDerived.Pilot.@@N@@Statement
import JvmDerived.Pilot.@@N@@Code
set_option linter.unusedVariables false
set_option linter.unusedSimpArgs false
namespace Jvm.Pilot.@@N@@
open Jvm Jvm.ClassFile Sem Op Lib Jvm.Free Jvm.Stand Jvm.LawKit Jvm.RoadKit Bundle Jvm.Pilot.@@N@@.Jvm.D
/-! own kit, part 1: the walk by continuations -/
abbrev Cx : Type := Program × Env × State × MethodId × Array Value × List Frame × Method × Code × (Outcome → State → Prop)
abbrev Cx.p (x : Cx) : Program := x.1
abbrev Cx.e (x : Cx) : Env := x.2.1
abbrev Cx.s (x : Cx) : State := x.2.2.1
abbrev Cx.m (x : Cx) : MethodId := x.2.2.2.1
abbrev Cx.args (x : Cx) : Array Value := x.2.2.2.2.1
abbrev Cx.below (x : Cx) : List Frame := x.2.2.2.2.2.1
abbrev Cx.meth (x : Cx) : Method := x.2.2.2.2.2.2.1
abbrev Cx.c (x : Cx) : Code := x.2.2.2.2.2.2.2.1
abbrev Cx.F (x : Cx) : Outcome → State → Prop := x.2.2.2.2.2.2.2.2
abbrev BP : Type := Addr → Prop
abbrev QT : Type := Option Value → Heap → BP → Prop
/-- the end is reached from A -/
def Go (x : Cx) (A : State) : Prop := ∃ s₂ o, Steps x.p.tables x.e x.below A s₂ ∧ s₂.status = .running ∧ Ended s₂ x.below o ∧ x.F o s₂
theorem Go.from {x : Cx} {A A' : State} (G : Go x A') (st : ∀ t, Steps x.p.tables x.e x.below A' t → Steps x.p.tables x.e x.below A t) : Go x A := by
  obtain ⟨t, o, h1, r⟩ := G
  exact ⟨t, o, st _ h1, r⟩
/-- an instruction of the bytes: where it stands, its length, the place behind it -/
def Dc (bytes : ByteArray) (pc : Nat) (i : Instr) (len pc' : Nat) : Prop := decode bytes pc = .ok (i, len) ∧ pc' = pc + len
/-- a branch: where it stands, where it goes -/
def Db (bytes : ByteArray) (pc : Nat) (i : Instr) (o : Int) (pc' pc'' : Nat) : Prop := decode bytes pc = .ok (i, 3) ∧ pc' = pc + 3 ∧ 0 ≤ (pc : Int) + o ∧ ((pc : Int) + o).toNat = pc''
def k_inv (Z : State) (EL : List (String × Nat)) (B : BP) (vm : Vm) (h : Heap) : Prop :=
  CHv Z EL vm h ∧ (∀ y, Bk Z EL vm h y → B y) ∧ (∀ y, B y → y < h.size) ∧ Ext Z.heap h ∧ ∃ a0, EW Z a0 EL
def k_end (nw : Bool) (U : State) (o : Outcome) (U' : State) (L : List Loc) (k n : Nat) : Prop :=
  ReturnedEndW U o U' L k n ∧ (nw = true → U.WarmedH U'.vm)
/-- the booked places: none is lost, and what has come lies at n or above -/
def k_more (B B' : BP) (n : Nat) : Prop := (∀ y, B' y → B y ∨ n ≤ y) ∧ ∀ y, B y → B' y
theorem k_more.refl (B : BP) (n : Nat) : k_more B B n := ⟨fun _ q => Or.inl q, fun _ q => q⟩
theorem k_more.trans {B B' B'' : BP} {n n' : Nat} (a : k_more B B' n) (b : k_more B' B'' n') (q : n ≤ n') : k_more B B'' n := ⟨fun y hy => by
  rcases b.1 y hy with r | r
  · exact a.1 y r
  · exact Or.inr (Nat.le_trans q r), fun y hy => b.2 y (a.2 y hy)⟩
theorem k_more.no {B B' : BP} {n : Nat} (a : k_more B B' n) {y : Addr} (h1 : ¬ B y) (h2 : @LT.lt Nat _ y n) : ¬ B' y := fun q => by
  rcases a.1 y q with r | r
  · exact h1 r
  · exact absurd h2 (Nat.not_lt.mpr r)
/-- what a body promises -/
def ConQ (nw : Bool) (Z : State) (EL : List (String × Nat)) (rm : Room) (h : Heap) (B : BP) (ws : List Addr) (Q : QT) (U : State) (o : Outcome) (U' : State) : Prop :=
  ∃ v L B', o = .returned v ∧ Q v U'.heap B' ∧ Keep h U'.heap ws ∧ k_more B B' h.size ∧ Fr Z.heap.size L ∧ k_inv Z EL B' U'.vm U'.heap ∧ k_end nw U o U' L rm.cells rm.slots
def Con (nw : Bool) (l : Launch) (Z : State) (EL : List (String × Nat)) (y : MethodName) (bytes : ByteArray) (maxL : Nat) (ret : Option FieldType) (wl : List Jvm.Cond) (rm : Room) (as : Array Value) (h : Heap) (B : BP) (ws : List Addr) (Q : QT) : Prop :=
  MetFree l y (head1 (Cond.code y bytes maxL ret :: wl) rm) (fun a U => a = as ∧ Z.Warmed39 U.vm ∧ U.heap = h ∧ k_inv Z EL B U.vm h) (fun _ _ _ _ _ => True) (fun _ U o U' => ConQ nw Z EL rm h B ws Q U o U')
/-- the walk stands at T, heap h -/
def Wk (nw : Bool) (l : Launch) (Z : State) (EL : List (String × Nat)) (own : String) (bytes : ByteArray) (maxL : Nat) (ret : Option FieldType) (mnm : String) (R : Room) (h0 : Heap) (B0 : BP) (ws : List Addr) (Q : QT) (x : Cx) (T : State) (h : Heap) (B : BP) (k n : Nat) : Prop :=
  (x.p.tables.exec = Jvm.exec ∧ x.c.code = bytes ∧ x.c.maxLocals = maxL ∧ x.meth.sig.returnType = ret ∧ x.meth.locks = false ∧ x.meth.name = mnm ∧ x.F = ConQ nw Z EL R h0 B0 ws Q x.s) ∧
  ∃ vm0 k0 locs, Stand x.p l x.e R (x.s.setVm vm0) x.m x.args x.below x.meth x.c T locs k n ∧ T.heap = h ∧ x.s.Since vm0 k0 ∧ k0 ≤ h.size ∧ Z.Warmed39 vm0 ∧ vm0.findClass own = some x.m.cls ∧ k_inv Z EL B vm0 h ∧ Fr Z.heap.size locs ∧ Keep h0 h ws ∧ k_more B0 B h0.size ∧ (nw = true → x.s.WarmedH vm0)
theorem k_neN {x y : Nat} (q : x ≠ y) : x ≠ y := q
theorem k_ltE {Z : State} {h : Heap} {a : Addr} {C : String} (E : Exa Z h a C) : @LT.lt Nat _ a h.size := E.lt
section Inv
variable {Z : State} {EL : List (String × Nat)} {B : BP} {vm vm0 : Vm} {h h' : Heap}
theorem k_inv.lt (I : k_inv Z EL B vm h) : ¬ B h.size := fun q => Nat.lt_irrefl _ (I.2.2.1 _ q)
theorem k_inv.keep (I : k_inv Z EL B vm h) {ws : List Addr} (K : Keep h h' ws) (hw : ∀ x ∈ ws, ¬ B x ∧ Z.heap.size ≤ x) : k_inv Z EL B vm h' := by
  obtain ⟨i1, i2, i3, i4, i5⟩ := I
  have q := CHv.keepStep K (fun x hx b => (hw x hx).1 (i2 _ b)) i1
  refine ⟨q.1, fun y b => i2 y (q.2 y b), fun y b => Nat.lt_of_lt_of_le (i3 y b) K.1, ⟨Nat.le_trans i4.1 K.1, fun a c e => K.2.1 a c (i4.2 a c e) fun z => ?_⟩, i5⟩
  exact absurd (Array.getElem?_eq_some_iff.mp e).1 (Nat.not_lt.mpr (hw a z).2)
theorem k_inv.ext (I : k_inv Z EL B vm h) (E : Ext h h') : k_inv Z EL B vm h' := I.keep ((Keep.refl h []).ext E) (fun _ q => nomatch q)
theorem k_inv.wr (I : k_inv Z EL B vm h) {a : Addr} {sl : Nat} {v : Value} (W : Wr h h' a sl v) (hb : ¬ B a) (hz : Z.heap.size ≤ a) : k_inv Z EL B vm h' :=
  I.keep (Keep.of_wr W) (fun y q => by cases List.mem_singleton.mp q; exact ⟨hb, hz⟩)
theorem k_inv.vmT {p : Program} {l : Launch} {e : Env} {R : Room} {s : State} {m : MethodId} {args : Array Value} {below : List Frame} {meth : Method} {c : Code} {T : State} {locs : List Loc} {cells slots : Nat}
    (I : k_inv Z EL B vm0 h) (X : Stand p l e R (s.setVm vm0) m args below meth c T locs cells slots) (hZ : Z.Warmed39 vm0) : k_inv Z EL B T.vm h := by
  obtain ⟨i1, i2, i3, i4, a0, i5⟩ := I
  have q := CHv.at X hZ i5 i1
  refine ⟨q.1, fun y b => ?_, i3, i4, a0, i5⟩
  rcases q.2.2 y b with r | r
  · exact i2 y r
  · exact absurd (by obtain ⟨cell, hc⟩ := Bk.there b; exact (Array.getElem?_eq_some_iff.mp hc).1) (Nat.not_lt.mpr r)
end Inv
section Kit
variable {nw : Bool} {l : Launch} {Z : State} {EL : List (String × Nat)} {own : String} {bytes : ByteArray} {maxL : Nat} {ret : Option FieldType} {mnm : String} {R : Room} {h0 : Heap} {B0 : BP} {ws : List Addr} {Q : QT} {x : Cx} {T : State} {h : Heap} {B : BP} {k n : Nat} {a0 : Array Value} {pc pc' : Nat} {Ls : Array Slot} {st : List Value}
/-- a body is walked from its entry -/
theorem k_intro {y : MethodName} {wl : List Jvm.Cond} {as : Array Value} (hy : plainFor y = true) (hef' : Jvm.Sym.laidSlots as.toList ++ List.replicate (maxL - (Jvm.Sym.laidSlots as.toList).length) .unset = Ls.toList)
    (body : ∀ (x : Cx) (T : State), Wk nw l Z EL y.cls bytes maxL ret y.name R h0 B0 ws Q x T h0 B0 0 0 → Go x (T.setTop (mkF x.m 0 Ls []))) :
    Con nw l Z EL y bytes maxL ret wl R as h0 B0 ws Q := by
  have hef : ∀ m, entryFrame m as maxL = mkF m 0 Ls [] := fun m => by
    have : argsToLocals as maxL = Ls := Array.toList_inj.mp (by rw [Jvm.Sym.argsToLocals_toList]; exact hef')
    unfold entryFrame
    rw [this]
  refine MetFree.of_bodySF hy hisR ?_
  intro p e s m args below meth c s₁ Bd hml0 hP hK
  obtain ⟨rfl, hZ, hh, hI⟩ := hP
  have hown : s.vm.findClass y.cls = some m.cls := findClass_of_methodNamed Bd.named
  have hnm := (name_of_methodNamed Bd.named Bd.method).1
  have X0 : Stand p l e R s m args below meth c s₁ [] 0 0 := Stand.of_body Bd
  have e0 : s₁.heap = h0 := by rw [← hh, Bd.state]; rfl
  have W : Wk nw l Z EL y.cls bytes maxL ret y.name R h0 B0 ws Q (p, e, s, m, args, below, meth, c, fun o t => ConQ nw Z EL R h0 B0 ws Q s o t) s₁ h0 B0 0 0 :=
    ⟨⟨Bd.exec, Bd.bytes, hml0, Bd.returns, Bd.notSynchronized, hnm, rfl⟩, s.vm, h0.size, [], X0, e0, (State.WarmedH.refl s).since _, Nat.le_refl _, hZ, hown, hI, Fr.nil _, Keep.refl _ _, k_more.refl _ _, fun _ => State.WarmedH.refl s⟩
  obtain ⟨t, o, g1, g2, g3, g4⟩ := body _ _ W
  exact ⟨t, o, castTop (hef m) g1, g2, g3, g4⟩
theorem Wk.at (X : Wk nw l Z EL own bytes maxL ret mnm R h0 B0 ws Q x T h B k n) : At T x.m x.c x.below := by obtain ⟨-, _, _, _, X, -⟩ := X; exact X.here
theorem Wk.ex (X : Wk nw l Z EL own bytes maxL ret mnm R h0 B0 ws Q x T h B k n) : x.p.tables.exec = Jvm.exec := X.1.1
theorem Wk.dec (X : Wk nw l Z EL own bytes maxL ret mnm R h0 B0 ws Q x T h B k n) {r : Except ClassFile.DecodeError (Instr × Nat)} (hd : decode bytes pc = r) : decode x.c.code pc = r := by rw [X.1.2.1]; exact hd
theorem Wk.inv (X : Wk nw l Z EL own bytes maxL ret mnm R h0 B0 ws Q x T h B k n) : ∃ vm, k_inv Z EL B vm h := by obtain ⟨-, vm, _, _, -, -, -, -, -, -, hI, -⟩ := X; exact ⟨vm, hI⟩
theorem Wk.old (X : Wk nw l Z EL own bytes maxL ret mnm R h0 B0 ws Q x T h B k n) : Ext Z.heap h := by obtain ⟨vm, I⟩ := X.inv; exact I.2.2.2.1
theorem Wk.fresh (X : Wk nw l Z EL own bytes maxL ret mnm R h0 B0 ws Q x T h B k n) : ¬ B h.size := by obtain ⟨vm, I⟩ := X.inv; exact I.lt
theorem Wk.free (X : Wk nw l Z EL own bytes maxL ret mnm R h0 B0 ws Q x T h B k n) {y : Addr} (q : h.size ≤ y) : ¬ B y := fun b => by obtain ⟨vm, I⟩ := X.inv; exact absurd (I.2.2.1 y b) (Nat.not_lt.mpr q)
theorem Wk.kept (X : Wk nw l Z EL own bytes maxL ret mnm R h0 B0 ws Q x T h B k n) : Keep h0 h ws := by obtain ⟨-, _, _, _, -, -, -, -, -, -, -, -, K, -⟩ := X; exact K
theorem Wk.more (X : Wk nw l Z EL own bytes maxL ret mnm R h0 B0 ws Q x T h B k n) {k' n' : Nat} (h1 : k ≤ k') (h2 : n ≤ n') : Wk nw l Z EL own bytes maxL ret mnm R h0 B0 ws Q x T h B k' n' := by
  obtain ⟨a, vm0, k0, locs, X, r⟩ := X
  exact ⟨a, vm0, k0, locs, X.more h1 h2, r⟩
theorem Wk.sz (X : Wk nw l Z EL own bytes maxL ret mnm R h0 B0 ws Q x T h B k n) : h0.size ≤ h.size := X.kept.1
theorem Wk.szZ (X : Wk nw l Z EL own bytes maxL ret mnm R h0 B0 ws Q x T h B k n) : Z.heap.size ≤ h.size := X.old.1
/-! the ends -/
theorem k_leave (X : Wk nw l Z EL own bytes maxL ret mnm R h0 B0 ws Q x T h B k n) (hk : k ≤ R.cells) (hn : n ≤ R.slots) {v : Option Value} (hv : ret = none → v = none) (hQ : Q v h B)
    {A : State} (st : ∀ fs, (∀ (f : JFrame) (acts : List Action), f.method = x.m → f.locked = none → f.entered = [] → (doReturn x.e (T.setTop f) acts v).1 = T.setFrames fs) → Steps x.p.tables x.e x.below A (T.setFrames fs)) : Go x A := by
  obtain ⟨⟨-, -, -, hr, hlk, -, hF⟩, vm0, k0, locs, X, rfl, hS, hk0, hZ, hown, hI, hFr, hK, hM, hN⟩ := X
  obtain ⟨fs, g1, g2, g3, g4⟩ := X.leaveW hS hk0 (v := v) (fun q => hv (hr ▸ q)) hlk
  refine ⟨T.setFrames fs, .returned v, st fs g1, g2, g3, ?_⟩
  rw [hF]
  refine ⟨v, locs, B, rfl, hQ, hK, hM, hFr, (have q := hI.vmT X hZ; q), ⟨?_, fun q => State.WarmedH.trans (hN q) X.warmed⟩⟩
  obtain ⟨q1, q2, q3, q4⟩ := g4
  exact ⟨q1, q2, q3, q4.mono hk hn⟩
theorem g_return (X : Wk nw l Z EL own bytes maxL none mnm R h0 B0 ws Q x T h B k n) (hd : Dc bytes pc .return_ 1 pc') (hk : k ≤ R.cells) (hn : n ≤ R.slots) (hQ : Q none h B) : Go x (T.setTop (mkF x.m pc Ls [])) := by
  refine k_leave X hk hn (fun _ => rfl) hQ fun fs hl => ?_
  obtain ⟨⟨hx, hb, -, hr, -, -, -⟩, vm0, k0, locs, X, -⟩ := X
  exact X.returnOut hx hr (hb ▸ hd.1) hl
theorem g_areturn {t : FieldType} {w : Value} (X : Wk nw l Z EL own bytes maxL (some t) mnm R h0 B0 ws Q x T h B k n) (hd : Dc bytes pc .areturn 1 pc') (ht : t.isReference = true) (hnw : narrow t w = w) (hw : w.isRef = true) (hk : k ≤ R.cells) (hn : n ≤ R.slots) (hQ : Q (some w) h B) : Go x (T.setTop (mkF x.m pc Ls (w :: st))) := by
  refine k_leave X hk hn (fun q => by cases q) hQ fun fs hl => ?_
  obtain ⟨⟨hx, hb, -, hr, -, -, -⟩, vm0, k0, locs, X, -⟩ := X
  exact retOut X hx hr hnw (Or.inr (Or.inr (Or.inr (Or.inr ⟨rfl, ht, hw⟩)))) (hb ▸ hd.1) hl
theorem g_ireturn {t : FieldType} {w w' : Int32} (X : Wk nw l Z EL own bytes maxL (some t) mnm R h0 B0 ws Q x T h B k n) (hd : Dc bytes pc .ireturn 1 pc') (ht : t = .boolean ∨ t = .byte ∨ t = .char ∨ t = .short) (hw : RoadKit.nar t w = w') (hk : k ≤ R.cells) (hn : n ≤ R.slots) (hQ : Q (some (.int w')) h B) : Go x (T.setTop (mkF x.m pc Ls (.int w :: st))) := by
  subst hw
  refine k_leave X hk hn (fun q => by cases q) hQ fun fs hl => ?_
  obtain ⟨⟨hx, hb, -, hr, -, -, -⟩, vm0, k0, locs, X, -⟩ := X
  exact retN X hx hr ht (hb ▸ hd.1) hl
theorem g_ireturnI {w : Int32} (X : Wk nw l Z EL own bytes maxL (some .int) mnm R h0 B0 ws Q x T h B k n) (hd : Dc bytes pc .ireturn 1 pc') (hk : k ≤ R.cells) (hn : n ≤ R.slots) (hQ : Q (some (.int w)) h B) : Go x (T.setTop (mkF x.m pc Ls (.int w :: st))) := by
  refine k_leave X hk hn (fun q => by cases q) hQ fun fs hl => ?_
  obtain ⟨⟨hx, hb, -, hr, -, -, -⟩, vm0, k0, locs, X, -⟩ := X
  exact retOut X hx hr rfl (Or.inl ⟨rfl, Or.inl rfl, _, rfl⟩) (hb ▸ hd.1) hl
theorem g_lreturn {w : Int64} (X : Wk nw l Z EL own bytes maxL (some .long) mnm R h0 B0 ws Q x T h B k n) (hd : Dc bytes pc .lreturn 1 pc') (hk : k ≤ R.cells) (hn : n ≤ R.slots) (hQ : Q (some (.long w)) h B) : Go x (T.setTop (mkF x.m pc Ls (.long w :: st))) := by
  refine k_leave X hk hn (fun q => by cases q) hQ fun fs hl => ?_
  obtain ⟨⟨hx, hb, -, hr, -, -, -⟩, vm0, k0, locs, X, -⟩ := X
  exact retOut X hx hr rfl (Or.inr (Or.inl ⟨rfl, rfl, _, rfl⟩)) (hb ▸ hd.1) hl
theorem g_iloadN (X : Wk nw l Z EL own bytes maxL ret mnm R h0 B0 ws Q x T h B k n) {j : Fin 4} {v : Int32} (hd : Dc bytes pc (.iload_n j) 1 pc') (hl : Ls[j.val]? = some (.val (.int v))) (G : Go x (T.setTop (mkF x.m pc' Ls (.int v :: st)))) : Go x (T.setTop (mkF x.m pc Ls st)) := by
  obtain ⟨hd, rfl⟩ := hd
  exact G.from fun t q => XS.iloadN X.at X.ex rfl (X.dec hd) hl q
theorem g_iload (X : Wk nw l Z EL own bytes maxL ret mnm R h0 B0 ws Q x T h B k n) {j : Nat} {v : Int32} (hd : Dc bytes pc (.iload j) 2 pc') (hl : Ls[j]? = some (.val (.int v))) (G : Go x (T.setTop (mkF x.m pc' Ls (.int v :: st)))) : Go x (T.setTop (mkF x.m pc Ls st)) := by
  obtain ⟨hd, rfl⟩ := hd
  exact G.from fun t q => XS.iload X.at X.ex rfl (X.dec hd) hl q
theorem g_lloadN (X : Wk nw l Z EL own bytes maxL ret mnm R h0 B0 ws Q x T h B k n) {j : Fin 4} {v : Int64} (hd : Dc bytes pc (.lload_n j) 1 pc') (hl : Ls[j.val]? = some (.val (.long v))) (G : Go x (T.setTop (mkF x.m pc' Ls (.long v :: st)))) : Go x (T.setTop (mkF x.m pc Ls st)) := by
  obtain ⟨hd, rfl⟩ := hd
  exact G.from fun t q => XT.lloadN X.at X.ex rfl (X.dec hd) hl q
theorem g_lload (X : Wk nw l Z EL own bytes maxL ret mnm R h0 B0 ws Q x T h B k n) {j : Nat} {v : Int64} (hd : Dc bytes pc (.lload j) 2 pc') (hl : Ls[j]? = some (.val (.long v))) (G : Go x (T.setTop (mkF x.m pc' Ls (.long v :: st)))) : Go x (T.setTop (mkF x.m pc Ls st)) := by
  obtain ⟨hd, rfl⟩ := hd
  exact G.from fun t q => XT.lload X.at X.ex rfl (X.dec hd) hl q
theorem g_aloadN (X : Wk nw l Z EL own bytes maxL ret mnm R h0 B0 ws Q x T h B k n) {j : Fin 4} {v : Value} (hd : Dc bytes pc (.aload_n j) 1 pc') (hl : Ls[j.val]? = some (.val v)) (hv : v.isRef = true) (G : Go x (T.setTop (mkF x.m pc' Ls (v :: st)))) : Go x (T.setTop (mkF x.m pc Ls st)) := by
  obtain ⟨hd, rfl⟩ := hd
  exact G.from fun t q => XS.aloadN X.at X.ex rfl (X.dec hd) hl hv q
theorem g_aload (X : Wk nw l Z EL own bytes maxL ret mnm R h0 B0 ws Q x T h B k n) {j : Nat} {v : Value} (hd : Dc bytes pc (.aload j) 2 pc') (hl : Ls[j]? = some (.val v)) (hv : v.isRef = true) (G : Go x (T.setTop (mkF x.m pc' Ls (v :: st)))) : Go x (T.setTop (mkF x.m pc Ls st)) := by
  obtain ⟨hd, rfl⟩ := hd
  exact G.from fun t q => XS.aload X.at X.ex rfl (X.dec hd) hl hv q
theorem g_istoreN (X : Wk nw l Z EL own bytes maxL ret mnm R h0 B0 ws Q x T h B k n) {j : Fin 4} {v : Int32} (Ls' : Array Slot) (hd : Dc bytes pc (.istore_n j) 1 pc') (hl : storeLocals Ls j.val (.int v) = some Ls') (G : Go x (T.setTop (mkF x.m pc' Ls' st))) : Go x (T.setTop (mkF x.m pc Ls (.int v :: st))) := by
  obtain ⟨hd, rfl⟩ := hd
  exact G.from fun t q => XS.istoreN X.at X.ex rfl (X.dec hd) rfl hl q
theorem g_istore (X : Wk nw l Z EL own bytes maxL ret mnm R h0 B0 ws Q x T h B k n) {j : Nat} {v : Int32} (Ls' : Array Slot) (hd : Dc bytes pc (.istore j) 2 pc') (hl : storeLocals Ls j (.int v) = some Ls') (G : Go x (T.setTop (mkF x.m pc' Ls' st))) : Go x (T.setTop (mkF x.m pc Ls (.int v :: st))) := by
  obtain ⟨hd, rfl⟩ := hd
  exact G.from fun t q => XS.istore X.at X.ex rfl (X.dec hd) rfl hl q
theorem g_lstoreN (X : Wk nw l Z EL own bytes maxL ret mnm R h0 B0 ws Q x T h B k n) {j : Fin 4} {v : Int64} (Ls' : Array Slot) (hd : Dc bytes pc (.lstore_n j) 1 pc') (hl : storeLocals Ls j.val (.long v) = some Ls') (G : Go x (T.setTop (mkF x.m pc' Ls' st))) : Go x (T.setTop (mkF x.m pc Ls (.long v :: st))) := by
  obtain ⟨hd, rfl⟩ := hd
  exact G.from fun t q => XT.lstoreN X.at X.ex rfl (X.dec hd) rfl hl q
theorem g_lstore (X : Wk nw l Z EL own bytes maxL ret mnm R h0 B0 ws Q x T h B k n) {j : Nat} {v : Int64} (Ls' : Array Slot) (hd : Dc bytes pc (.lstore j) 2 pc') (hl : storeLocals Ls j (.long v) = some Ls') (G : Go x (T.setTop (mkF x.m pc' Ls' st))) : Go x (T.setTop (mkF x.m pc Ls (.long v :: st))) := by
  obtain ⟨hd, rfl⟩ := hd
  exact G.from fun t q => XT.lstore X.at X.ex rfl (X.dec hd) rfl hl q
theorem g_astoreN (X : Wk nw l Z EL own bytes maxL ret mnm R h0 B0 ws Q x T h B k n) {j : Fin 4} {v : Value} (Ls' : Array Slot) (hd : Dc bytes pc (.astore_n j) 1 pc') (hv : v.isRef = true) (hl : storeLocals Ls j.val v = some Ls') (G : Go x (T.setTop (mkF x.m pc' Ls' st))) : Go x (T.setTop (mkF x.m pc Ls (v :: st))) := by
  obtain ⟨hd, rfl⟩ := hd
  exact G.from fun t q => XS.astoreN X.at X.ex rfl (X.dec hd) rfl hv hl q
theorem g_astore (X : Wk nw l Z EL own bytes maxL ret mnm R h0 B0 ws Q x T h B k n) {j : Nat} {v : Value} (Ls' : Array Slot) (hd : Dc bytes pc (.astore j) 2 pc') (hv : v.isRef = true) (hl : storeLocals Ls j v = some Ls') (G : Go x (T.setTop (mkF x.m pc' Ls' st))) : Go x (T.setTop (mkF x.m pc Ls (v :: st))) := by
  obtain ⟨hd, rfl⟩ := hd
  exact G.from fun t q => XS.astore X.at X.ex rfl (X.dec hd) rfl hv hl q
theorem g_iconst (X : Wk nw l Z EL own bytes maxL ret mnm R h0 B0 ws Q x T h B k n) {i : Int} (v : Int32) (hd : Dc bytes pc (.iconst i) 1 pc') (hv : Int32.ofInt i = v) (G : Go x (T.setTop (mkF x.m pc' Ls (.int v :: st)))) : Go x (T.setTop (mkF x.m pc Ls st)) := by
  obtain ⟨hd, rfl⟩ := hd
  exact G.from fun t q => XT.iconstV X.at X.ex rfl v (X.dec hd) hv q
theorem g_bipush (X : Wk nw l Z EL own bytes maxL ret mnm R h0 B0 ws Q x T h B k n) {i : Int} (v : Int32) (hd : Dc bytes pc (.bipush i) 2 pc') (hv : (Int8.ofInt i).toInt32 = v) (G : Go x (T.setTop (mkF x.m pc' Ls (.int v :: st)))) : Go x (T.setTop (mkF x.m pc Ls st)) := by
  obtain ⟨hd, rfl⟩ := hd
  exact G.from fun t q => XT.bipushV X.at X.ex rfl v (X.dec hd) hv q
theorem g_sipush (X : Wk nw l Z EL own bytes maxL ret mnm R h0 B0 ws Q x T h B k n) {i : Int} (v : Int32) (hd : Dc bytes pc (.sipush i) 3 pc') (hv : (Int16.ofInt i).toInt32 = v) (G : Go x (T.setTop (mkF x.m pc' Ls (.int v :: st)))) : Go x (T.setTop (mkF x.m pc Ls st)) := by
  obtain ⟨hd, rfl⟩ := hd
  exact G.from fun t q => XT.sipushV X.at X.ex rfl v (X.dec hd) hv q
theorem g_lconst (X : Wk nw l Z EL own bytes maxL ret mnm R h0 B0 ws Q x T h B k n) {i : Fin 2} (v : Int64) (hd : Dc bytes pc (.lconst i) 1 pc') (hv : Int64.ofNat i = v) (G : Go x (T.setTop (mkF x.m pc' Ls (.long v :: st)))) : Go x (T.setTop (mkF x.m pc Ls st)) := by
  obtain ⟨hd, rfl⟩ := hd
  exact G.from fun t q => XT.lconstV X.at X.ex rfl v (X.dec hd) hv q
theorem g_aconst_null (X : Wk nw l Z EL own bytes maxL ret mnm R h0 B0 ws Q x T h B k n)  (hd : Dc bytes pc (.aconst_null) 1 pc')  (G : Go x (T.setTop (mkF x.m pc' Ls (.null :: st)))) : Go x (T.setTop (mkF x.m pc Ls st)) := by
  obtain ⟨hd, rfl⟩ := hd
  exact G.from fun t q => XS.aconstNull X.at X.ex rfl (X.dec hd) q
theorem g_iinc (X : Wk nw l Z EL own bytes maxL ret mnm R h0 B0 ws Q x T h B k n) {j : Nat} {cst : Int} {v r : Int32} (Ls' : Array Slot) (hd : Dc bytes pc (.iinc j cst) 3 pc') (hl : Ls[j]? = some (.val (.int v))) (hr : v + Int32.ofInt cst = r) (hl' : storeLocals Ls j (.int r) = some Ls') (G : Go x (T.setTop (mkF x.m pc' Ls' st))) : Go x (T.setTop (mkF x.m pc Ls st)) := by
  obtain ⟨hd, rfl⟩ := hd
  exact G.from fun t q => XS.iinc X.at X.ex rfl (X.dec hd) hl (hr ▸ hl') q
theorem g_iadd (X : Wk nw l Z EL own bytes maxL ret mnm R h0 B0 ws Q x T h B k n) {u v : Int32} (r : Int32) (hd : Dc bytes pc (.iadd) 1 pc') (hr : u + v = r) (G : Go x (T.setTop (mkF x.m pc' Ls (.int r :: st)))) : Go x (T.setTop (mkF x.m pc Ls (.int v :: .int u :: st))) := by
  obtain ⟨hd, rfl⟩ := hd
  exact G.from fun t q => XS.iadd X.at X.ex rfl (X.dec hd) rfl (hr ▸ q)
theorem g_isub (X : Wk nw l Z EL own bytes maxL ret mnm R h0 B0 ws Q x T h B k n) {u v : Int32} (r : Int32) (hd : Dc bytes pc (.isub) 1 pc') (hr : u - v = r) (G : Go x (T.setTop (mkF x.m pc' Ls (.int r :: st)))) : Go x (T.setTop (mkF x.m pc Ls (.int v :: .int u :: st))) := by
  obtain ⟨hd, rfl⟩ := hd
  exact G.from fun t q => XS.isub X.at X.ex rfl (X.dec hd) rfl (hr ▸ q)
theorem g_imul (X : Wk nw l Z EL own bytes maxL ret mnm R h0 B0 ws Q x T h B k n) {u v : Int32} (r : Int32) (hd : Dc bytes pc (.imul) 1 pc') (hr : u * v = r) (G : Go x (T.setTop (mkF x.m pc' Ls (.int r :: st)))) : Go x (T.setTop (mkF x.m pc Ls (.int v :: .int u :: st))) := by
  obtain ⟨hd, rfl⟩ := hd
  exact G.from fun t q => XS.imul X.at X.ex rfl (X.dec hd) rfl (hr ▸ q)
theorem g_iand (X : Wk nw l Z EL own bytes maxL ret mnm R h0 B0 ws Q x T h B k n) {u v : Int32} (r : Int32) (hd : Dc bytes pc (.iand) 1 pc') (hr : u &&& v = r) (G : Go x (T.setTop (mkF x.m pc' Ls (.int r :: st)))) : Go x (T.setTop (mkF x.m pc Ls (.int v :: .int u :: st))) := by
  obtain ⟨hd, rfl⟩ := hd
  exact G.from fun t q => XS.iand X.at X.ex rfl (X.dec hd) rfl (hr ▸ q)
theorem g_ior (X : Wk nw l Z EL own bytes maxL ret mnm R h0 B0 ws Q x T h B k n) {u v : Int32} (r : Int32) (hd : Dc bytes pc (.ior) 1 pc') (hr : u ||| v = r) (G : Go x (T.setTop (mkF x.m pc' Ls (.int r :: st)))) : Go x (T.setTop (mkF x.m pc Ls (.int v :: .int u :: st))) := by
  obtain ⟨hd, rfl⟩ := hd
  exact G.from fun t q => XT.ior X.at X.ex rfl (X.dec hd) rfl (hr ▸ q)
theorem g_ixor (X : Wk nw l Z EL own bytes maxL ret mnm R h0 B0 ws Q x T h B k n) {u v : Int32} (r : Int32) (hd : Dc bytes pc (.ixor) 1 pc') (hr : u ^^^ v = r) (G : Go x (T.setTop (mkF x.m pc' Ls (.int r :: st)))) : Go x (T.setTop (mkF x.m pc Ls (.int v :: .int u :: st))) := by
  obtain ⟨hd, rfl⟩ := hd
  exact G.from fun t q => XT.ixor X.at X.ex rfl (X.dec hd) rfl (hr ▸ q)
theorem g_ishl (X : Wk nw l Z EL own bytes maxL ret mnm R h0 B0 ws Q x T h B k n) {u v : Int32} (r : Int32) (hd : Dc bytes pc (.ishl) 1 pc') (hr : u <<< (v &&& 31) = r) (G : Go x (T.setTop (mkF x.m pc' Ls (.int r :: st)))) : Go x (T.setTop (mkF x.m pc Ls (.int v :: .int u :: st))) := by
  obtain ⟨hd, rfl⟩ := hd
  exact G.from fun t q => XT.ishl X.at X.ex rfl (X.dec hd) rfl (hr ▸ q)
theorem g_ishr (X : Wk nw l Z EL own bytes maxL ret mnm R h0 B0 ws Q x T h B k n) {u v : Int32} (r : Int32) (hd : Dc bytes pc (.ishr) 1 pc') (hr : u >>> (v &&& 31) = r) (G : Go x (T.setTop (mkF x.m pc' Ls (.int r :: st)))) : Go x (T.setTop (mkF x.m pc Ls (.int v :: .int u :: st))) := by
  obtain ⟨hd, rfl⟩ := hd
  exact G.from fun t q => XT.ishr X.at X.ex rfl (X.dec hd) rfl (hr ▸ q)
theorem g_iushr (X : Wk nw l Z EL own bytes maxL ret mnm R h0 B0 ws Q x T h B k n) {u v : Int32} (r : Int32) (hd : Dc bytes pc (.iushr) 1 pc') (hr : XT.ushr u v = r) (G : Go x (T.setTop (mkF x.m pc' Ls (.int r :: st)))) : Go x (T.setTop (mkF x.m pc Ls (.int v :: .int u :: st))) := by
  obtain ⟨hd, rfl⟩ := hd
  exact G.from fun t q => XT.iushr X.at X.ex rfl (X.dec hd) rfl (hr ▸ q)
theorem g_idiv (X : Wk nw l Z EL own bytes maxL ret mnm R h0 B0 ws Q x T h B k n) {u v : Int32} (r : Int32) (hd : Dc bytes pc (.idiv) 1 pc') (h0 : v ≠ 0) (hr : u / v = r) (G : Go x (T.setTop (mkF x.m pc' Ls (.int r :: st)))) : Go x (T.setTop (mkF x.m pc Ls (.int v :: .int u :: st))) := by
  obtain ⟨hd, rfl⟩ := hd
  exact G.from fun t q => XS.idiv X.at X.ex rfl (X.dec hd) rfl h0 (hr ▸ q)
theorem g_irem (X : Wk nw l Z EL own bytes maxL ret mnm R h0 B0 ws Q x T h B k n) {u v : Int32} (r : Int32) (hd : Dc bytes pc (.irem) 1 pc') (h0 : v ≠ 0) (hr : u % v = r) (G : Go x (T.setTop (mkF x.m pc' Ls (.int r :: st)))) : Go x (T.setTop (mkF x.m pc Ls (.int v :: .int u :: st))) := by
  obtain ⟨hd, rfl⟩ := hd
  exact G.from fun t q => XS.irem X.at X.ex rfl (X.dec hd) rfl h0 (by rw [irem_eq_mod u v, hr]; exact q)
theorem g_ladd (X : Wk nw l Z EL own bytes maxL ret mnm R h0 B0 ws Q x T h B k n) {u v : Int64} (r : Int64) (hd : Dc bytes pc (.ladd) 1 pc') (hr : u + v = r) (G : Go x (T.setTop (mkF x.m pc' Ls (.long r :: st)))) : Go x (T.setTop (mkF x.m pc Ls (.long v :: .long u :: st))) := by
  obtain ⟨hd, rfl⟩ := hd
  exact G.from fun t q => XT.ladd X.at X.ex rfl (X.dec hd) rfl (hr ▸ q)
theorem g_lsub (X : Wk nw l Z EL own bytes maxL ret mnm R h0 B0 ws Q x T h B k n) {u v : Int64} (r : Int64) (hd : Dc bytes pc (.lsub) 1 pc') (hr : u - v = r) (G : Go x (T.setTop (mkF x.m pc' Ls (.long r :: st)))) : Go x (T.setTop (mkF x.m pc Ls (.long v :: .long u :: st))) := by
  obtain ⟨hd, rfl⟩ := hd
  exact G.from fun t q => XT.lsub X.at X.ex rfl (X.dec hd) rfl (hr ▸ q)
theorem g_lmul (X : Wk nw l Z EL own bytes maxL ret mnm R h0 B0 ws Q x T h B k n) {u v : Int64} (r : Int64) (hd : Dc bytes pc (.lmul) 1 pc') (hr : u * v = r) (G : Go x (T.setTop (mkF x.m pc' Ls (.long r :: st)))) : Go x (T.setTop (mkF x.m pc Ls (.long v :: .long u :: st))) := by
  obtain ⟨hd, rfl⟩ := hd
  exact G.from fun t q => XT.lmul X.at X.ex rfl (X.dec hd) rfl (hr ▸ q)
theorem g_land (X : Wk nw l Z EL own bytes maxL ret mnm R h0 B0 ws Q x T h B k n) {u v : Int64} (r : Int64) (hd : Dc bytes pc (.land) 1 pc') (hr : u &&& v = r) (G : Go x (T.setTop (mkF x.m pc' Ls (.long r :: st)))) : Go x (T.setTop (mkF x.m pc Ls (.long v :: .long u :: st))) := by
  obtain ⟨hd, rfl⟩ := hd
  exact G.from fun t q => XT.land X.at X.ex rfl (X.dec hd) rfl (hr ▸ q)
theorem g_lor (X : Wk nw l Z EL own bytes maxL ret mnm R h0 B0 ws Q x T h B k n) {u v : Int64} (r : Int64) (hd : Dc bytes pc (.lor) 1 pc') (hr : u ||| v = r) (G : Go x (T.setTop (mkF x.m pc' Ls (.long r :: st)))) : Go x (T.setTop (mkF x.m pc Ls (.long v :: .long u :: st))) := by
  obtain ⟨hd, rfl⟩ := hd
  exact G.from fun t q => XT.lor X.at X.ex rfl (X.dec hd) rfl (hr ▸ q)
theorem g_lxor (X : Wk nw l Z EL own bytes maxL ret mnm R h0 B0 ws Q x T h B k n) {u v : Int64} (r : Int64) (hd : Dc bytes pc (.lxor) 1 pc') (hr : u ^^^ v = r) (G : Go x (T.setTop (mkF x.m pc' Ls (.long r :: st)))) : Go x (T.setTop (mkF x.m pc Ls (.long v :: .long u :: st))) := by
  obtain ⟨hd, rfl⟩ := hd
  exact G.from fun t q => XT.lxor X.at X.ex rfl (X.dec hd) rfl (hr ▸ q)
theorem g_lshl (X : Wk nw l Z EL own bytes maxL ret mnm R h0 B0 ws Q x T h B k n) {u : Int64} {v : Int32} (r : Int64) (hd : Dc bytes pc (.lshl) 1 pc') (hr : u <<< (v.toInt64 &&& 63) = r) (G : Go x (T.setTop (mkF x.m pc' Ls (.long r :: st)))) : Go x (T.setTop (mkF x.m pc Ls (.int v :: .long u :: st))) := by
  obtain ⟨hd, rfl⟩ := hd
  exact G.from fun t q => XT.lshl X.at X.ex rfl (X.dec hd) rfl (hr ▸ q)
theorem g_lshr (X : Wk nw l Z EL own bytes maxL ret mnm R h0 B0 ws Q x T h B k n) {u : Int64} {v : Int32} (r : Int64) (hd : Dc bytes pc (.lshr) 1 pc') (hr : u >>> (v.toInt64 &&& 63) = r) (G : Go x (T.setTop (mkF x.m pc' Ls (.long r :: st)))) : Go x (T.setTop (mkF x.m pc Ls (.int v :: .long u :: st))) := by
  obtain ⟨hd, rfl⟩ := hd
  exact G.from fun t q => XT.lshr X.at X.ex rfl (X.dec hd) rfl (hr ▸ q)
theorem g_lushr (X : Wk nw l Z EL own bytes maxL ret mnm R h0 B0 ws Q x T h B k n) {u : Int64} {v : Int32} (r : Int64) (hd : Dc bytes pc (.lushr) 1 pc') (hr : XT.ushrL u v = r) (G : Go x (T.setTop (mkF x.m pc' Ls (.long r :: st)))) : Go x (T.setTop (mkF x.m pc Ls (.int v :: .long u :: st))) := by
  obtain ⟨hd, rfl⟩ := hd
  exact G.from fun t q => XT.lushr X.at X.ex rfl (X.dec hd) rfl (hr ▸ q)
theorem g_ineg (X : Wk nw l Z EL own bytes maxL ret mnm R h0 B0 ws Q x T h B k n) {u : Int32} (r : Int32) (hd : Dc bytes pc (.ineg) 1 pc') (hr : -u = r) (G : Go x (T.setTop (mkF x.m pc' Ls (.int r :: st)))) : Go x (T.setTop (mkF x.m pc Ls (.int u :: st))) := by
  obtain ⟨hd, rfl⟩ := hd
  exact G.from fun t q => XS.ineg X.at X.ex rfl (X.dec hd) rfl (hr ▸ q)
theorem g_i2l (X : Wk nw l Z EL own bytes maxL ret mnm R h0 B0 ws Q x T h B k n) {u : Int32} (r : Int64) (hd : Dc bytes pc (.i2l) 1 pc') (hr : u.toInt64 = r) (G : Go x (T.setTop (mkF x.m pc' Ls (.long r :: st)))) : Go x (T.setTop (mkF x.m pc Ls (.int u :: st))) := by
  obtain ⟨hd, rfl⟩ := hd
  exact G.from fun t q => XT.i2l X.at X.ex rfl (X.dec hd) rfl (hr ▸ q)
theorem g_l2i (X : Wk nw l Z EL own bytes maxL ret mnm R h0 B0 ws Q x T h B k n) {u : Int64} (r : Int32) (hd : Dc bytes pc (.l2i) 1 pc') (hr : u.toInt32 = r) (G : Go x (T.setTop (mkF x.m pc' Ls (.int r :: st)))) : Go x (T.setTop (mkF x.m pc Ls (.long u :: st))) := by
  obtain ⟨hd, rfl⟩ := hd
  exact G.from fun t q => XT.l2i X.at X.ex rfl (X.dec hd) rfl (hr ▸ q)
theorem g_i2b (X : Wk nw l Z EL own bytes maxL ret mnm R h0 B0 ws Q x T h B k n) {u : Int32} (r : Int32) (hd : Dc bytes pc (.i2b) 1 pc') (hr : u.toInt8.toInt32 = r) (G : Go x (T.setTop (mkF x.m pc' Ls (.int r :: st)))) : Go x (T.setTop (mkF x.m pc Ls (.int u :: st))) := by
  obtain ⟨hd, rfl⟩ := hd
  exact G.from fun t q => XT.i2b X.at X.ex rfl (X.dec hd) rfl (hr ▸ q)
theorem g_i2c (X : Wk nw l Z EL own bytes maxL ret mnm R h0 B0 ws Q x T h B k n) {u : Int32} (r : Int32) (hd : Dc bytes pc (.i2c) 1 pc') (hr : u.toUInt32.toUInt16.toUInt32.toInt32 = r) (G : Go x (T.setTop (mkF x.m pc' Ls (.int r :: st)))) : Go x (T.setTop (mkF x.m pc Ls (.int u :: st))) := by
  obtain ⟨hd, rfl⟩ := hd
  exact G.from fun t q => XT.i2c X.at X.ex rfl (X.dec hd) rfl (hr ▸ q)
theorem g_i2s (X : Wk nw l Z EL own bytes maxL ret mnm R h0 B0 ws Q x T h B k n) {u : Int32} (r : Int32) (hd : Dc bytes pc (.i2s) 1 pc') (hr : u.toInt16.toInt32 = r) (G : Go x (T.setTop (mkF x.m pc' Ls (.int r :: st)))) : Go x (T.setTop (mkF x.m pc Ls (.int u :: st))) := by
  obtain ⟨hd, rfl⟩ := hd
  exact G.from fun t q => XT.i2s X.at X.ex rfl (X.dec hd) rfl (hr ▸ q)
theorem g_lcmp (X : Wk nw l Z EL own bytes maxL ret mnm R h0 B0 ws Q x T h B k n) {u v : Int64} (r : Int32) (hd : Dc bytes pc (.lcmp) 1 pc') (hr : XT.cmpL u v = r) (G : Go x (T.setTop (mkF x.m pc' Ls (.int r :: st)))) : Go x (T.setTop (mkF x.m pc Ls (.long v :: .long u :: st))) := by
  obtain ⟨hd, rfl⟩ := hd
  exact G.from fun t q => XT.lcmp X.at X.ex rfl (X.dec hd) rfl (hr ▸ q)
theorem g_dup (X : Wk nw l Z EL own bytes maxL ret mnm R h0 B0 ws Q x T h B k n) {v : Value} (hd : Dc bytes pc (.dup) 1 pc') (hc : v.category = 1) (G : Go x (T.setTop (mkF x.m pc' Ls (v :: v :: st)))) : Go x (T.setTop (mkF x.m pc Ls (v :: st))) := by
  obtain ⟨hd, rfl⟩ := hd
  exact G.from fun t q => XS.dup X.at X.ex rfl (X.dec hd) rfl hc q
theorem g_pop (X : Wk nw l Z EL own bytes maxL ret mnm R h0 B0 ws Q x T h B k n) {v : Value} (hd : Dc bytes pc (.pop) 1 pc') (hc : v.category = 1) (G : Go x (T.setTop (mkF x.m pc' Ls st))) : Go x (T.setTop (mkF x.m pc Ls (v :: st))) := by
  obtain ⟨hd, rfl⟩ := hd
  exact G.from fun t q => XT.pop X.at X.ex rfl (X.dec hd) rfl hc q
theorem g_dup_x1 (X : Wk nw l Z EL own bytes maxL ret mnm R h0 B0 ws Q x T h B k n) {u v : Value} (hd : Dc bytes pc (.dup_x1) 1 pc') (hc : u.category = 1) (hc' : v.category = 1) (G : Go x (T.setTop (mkF x.m pc' Ls (u :: v :: u :: st)))) : Go x (T.setTop (mkF x.m pc Ls (u :: v :: st))) := by
  obtain ⟨hd, rfl⟩ := hd
  exact G.from fun t q => XT.dupX1 X.at X.ex rfl (X.dec hd) rfl hc hc' q
theorem g_dup2 (X : Wk nw l Z EL own bytes maxL ret mnm R h0 B0 ws Q x T h B k n) {u v : Value} (hd : Dc bytes pc (.dup2) 1 pc') (hc : u.category = 1) (hc' : v.category = 1) (G : Go x (T.setTop (mkF x.m pc' Ls (u :: v :: u :: v :: st)))) : Go x (T.setTop (mkF x.m pc Ls (u :: v :: st))) := by
  obtain ⟨hd, rfl⟩ := hd
  exact G.from fun t q => XT.dup2 X.at X.ex rfl (X.dec hd) rfl hc hc' q
theorem g_dup2L (X : Wk nw l Z EL own bytes maxL ret mnm R h0 B0 ws Q x T h B k n) {u : Int64} (hd : Dc bytes pc (.dup2) 1 pc')  (G : Go x (T.setTop (mkF x.m pc' Ls (.long u :: .long u :: st)))) : Go x (T.setTop (mkF x.m pc Ls (.long u :: st))) := by
  obtain ⟨hd, rfl⟩ := hd
  exact G.from fun t q => XT.dup2L X.at X.ex rfl (X.dec hd) rfl q
theorem g_goto (X : Wk nw l Z EL own bytes maxL ret mnm R h0 B0 ws Q x T h B k n) {o : Int} {pc'' : Nat}  (hd : Db bytes pc (.goto o) o pc' pc'')  (G : Go x (T.setTop (mkF x.m pc'' Ls st))) : Go x (T.setTop (mkF x.m pc Ls st)) := by
  obtain ⟨hd, rfl, ho, rfl⟩ := hd
  exact G.from fun t q => XS.goto X.at X.ex rfl rfl (X.dec hd) ho rfl q
theorem g_ifT (X : Wk nw l Z EL own bytes maxL ret mnm R h0 B0 ws Q x T h B k n) {o : Int} {pc'' : Nat} {cd : ClassFile.Cond} {v : Int32} (hd : Db bytes pc (.ifCond cd o) o pc' pc'') (hc : ifCond.holds cd v = true) (G : Go x (T.setTop (mkF x.m pc'' Ls st))) : Go x (T.setTop (mkF x.m pc Ls (.int v :: st))) := by
  obtain ⟨hd, rfl, ho, rfl⟩ := hd
  exact G.from fun t q => XS.ifYes X.at X.ex rfl rfl (X.dec hd) rfl hc ho rfl q
theorem g_ifF (X : Wk nw l Z EL own bytes maxL ret mnm R h0 B0 ws Q x T h B k n) {o : Int} {pc'' : Nat} {cd : ClassFile.Cond} {v : Int32} (hd : Db bytes pc (.ifCond cd o) o pc' pc'') (hc : ifCond.holds cd v = false) (G : Go x (T.setTop (mkF x.m pc' Ls st))) : Go x (T.setTop (mkF x.m pc Ls (.int v :: st))) := by
  obtain ⟨hd, rfl, ho, rfl⟩ := hd
  exact G.from fun t q => XS.ifNo X.at X.ex rfl (X.dec hd) rfl hc q
theorem g_icmpT (X : Wk nw l Z EL own bytes maxL ret mnm R h0 B0 ws Q x T h B k n) {o : Int} {pc'' : Nat} {cd : ClassFile.Cond} {u v : Int32} (hd : Db bytes pc (.if_icmp cd o) o pc' pc'') (hc : if_icmp.holds cd u v = true) (G : Go x (T.setTop (mkF x.m pc'' Ls st))) : Go x (T.setTop (mkF x.m pc Ls (.int v :: .int u :: st))) := by
  obtain ⟨hd, rfl, ho, rfl⟩ := hd
  exact G.from fun t q => XS.icmpYes X.at X.ex rfl rfl (X.dec hd) rfl hc ho rfl q
theorem g_icmpF (X : Wk nw l Z EL own bytes maxL ret mnm R h0 B0 ws Q x T h B k n) {o : Int} {pc'' : Nat} {cd : ClassFile.Cond} {u v : Int32} (hd : Db bytes pc (.if_icmp cd o) o pc' pc'') (hc : if_icmp.holds cd u v = false) (G : Go x (T.setTop (mkF x.m pc' Ls st))) : Go x (T.setTop (mkF x.m pc Ls (.int v :: .int u :: st))) := by
  obtain ⟨hd, rfl, ho, rfl⟩ := hd
  exact G.from fun t q => XS.icmpNo X.at X.ex rfl (X.dec hd) rfl hc q
theorem g_acmpT (X : Wk nw l Z EL own bytes maxL ret mnm R h0 B0 ws Q x T h B k n) {o : Int} {pc'' : Nat} {cd : ClassFile.ACond} {u v : Value} (hd : Db bytes pc (.if_acmp cd o) o pc' pc'') (h1 : u.isRef = true) (h2 : v.isRef = true) (hc : XT.acmp cd u v = true) (G : Go x (T.setTop (mkF x.m pc'' Ls st))) : Go x (T.setTop (mkF x.m pc Ls (v :: u :: st))) := by
  obtain ⟨hd, rfl, ho, rfl⟩ := hd
  exact G.from fun t q => XT.acmpYes X.at X.ex rfl rfl (X.dec hd) rfl h1 h2 hc ho rfl q
theorem g_acmpF (X : Wk nw l Z EL own bytes maxL ret mnm R h0 B0 ws Q x T h B k n) {o : Int} {pc'' : Nat} {cd : ClassFile.ACond} {u v : Value} (hd : Db bytes pc (.if_acmp cd o) o pc' pc'') (h1 : u.isRef = true) (h2 : v.isRef = true) (hc : XT.acmp cd u v = false) (G : Go x (T.setTop (mkF x.m pc' Ls st))) : Go x (T.setTop (mkF x.m pc Ls (v :: u :: st))) := by
  obtain ⟨hd, rfl, ho, rfl⟩ := hd
  exact G.from fun t q => XT.acmpNo X.at X.ex rfl (X.dec hd) rfl h1 h2 hc q
theorem g_ifnullT (X : Wk nw l Z EL own bytes maxL ret mnm R h0 B0 ws Q x T h B k n) {o : Int} {pc'' : Nat}  (hd : Db bytes pc (.ifnull o) o pc' pc'')  (G : Go x (T.setTop (mkF x.m pc'' Ls st))) : Go x (T.setTop (mkF x.m pc Ls (.null :: st))) := by
  obtain ⟨hd, rfl, ho, rfl⟩ := hd
  exact G.from fun t q => XS.ifnullYes X.at X.ex rfl rfl (X.dec hd) rfl ho rfl q
theorem g_ifnullF (X : Wk nw l Z EL own bytes maxL ret mnm R h0 B0 ws Q x T h B k n) {o : Int} {pc'' : Nat} {a : Addr} (hd : Db bytes pc (.ifnull o) o pc' pc'')  (G : Go x (T.setTop (mkF x.m pc' Ls st))) : Go x (T.setTop (mkF x.m pc Ls (.ref a :: st))) := by
  obtain ⟨hd, rfl, ho, rfl⟩ := hd
  exact G.from fun t q => XS.ifnullNo X.at X.ex rfl (X.dec hd) rfl q
theorem g_ifnonnullT (X : Wk nw l Z EL own bytes maxL ret mnm R h0 B0 ws Q x T h B k n) {o : Int} {pc'' : Nat} {a : Addr} (hd : Db bytes pc (.ifnonnull o) o pc' pc'')  (G : Go x (T.setTop (mkF x.m pc'' Ls st))) : Go x (T.setTop (mkF x.m pc Ls (.ref a :: st))) := by
  obtain ⟨hd, rfl, ho, rfl⟩ := hd
  exact G.from fun t q => XT.ifnonnullYes X.at X.ex rfl rfl (X.dec hd) rfl ho rfl q
theorem g_ifnonnullF (X : Wk nw l Z EL own bytes maxL ret mnm R h0 B0 ws Q x T h B k n) {o : Int} {pc'' : Nat}  (hd : Db bytes pc (.ifnonnull o) o pc' pc'')  (G : Go x (T.setTop (mkF x.m pc' Ls st))) : Go x (T.setTop (mkF x.m pc Ls (.null :: st))) := by
  obtain ⟨hd, rfl, ho, rfl⟩ := hd
  exact G.from fun t q => XT.ifnonnullNo X.at X.ex rfl (X.dec hd) rfl q
end Kit
/-! own kit, part 3: fields, statics, objects, arrays -/
/-- the array at a holds just these values -/
def Ay (Z : State) (h : Heap) (a : Addr) (ty : FieldType) (vs : List Value) : Prop :=
  ∃ c : Cell, Arr Z h a c ty ∧ c.slots.toList = vs ∧ vs.length < 2 ^ 31 ∧ ∀ v ∈ vs, fits ty v = true
section Ay
variable {Z : State} {h h' : Heap} {a b : Addr} {ty : FieldType} {vs : List Value} {ws : List Addr}
theorem Ay.lt (A : Ay Z h a ty vs) : @LT.lt Nat _ a h.size := by obtain ⟨c, A, -⟩ := A; exact A.lt
theorem Ay.len (A : Ay Z h a ty vs) : vs.length < 2 ^ 31 := by obtain ⟨c, A, -, l, -⟩ := A; exact l
theorem Ay.fit (A : Ay Z h a ty vs) : ∀ v ∈ vs, fits ty v = true := by obtain ⟨c, A, -, -, f⟩ := A; exact f
theorem Ay.keep (A : Ay Z h a ty vs) (K : Keep h h' ws) (q : a ∉ ws) : Ay Z h' a ty vs := by obtain ⟨c, A, r⟩ := A; exact ⟨c, ⟨K.2.1 a c A.1 q, A.2⟩, r⟩
theorem Ay.ext (A : Ay Z h a ty vs) (E : Ext h h') : Ay Z h' a ty vs := by obtain ⟨c, A, r⟩ := A; exact ⟨c, A.ext E, r⟩
theorem Ay.arv (A : Ay Z h a ty vs) (d : Value) : ∃ k, Arv Z h a k ty vs.length.toInt32 vs d := by
  obtain ⟨c, A, e, l, f⟩ := A
  have hsz : c.slots.size = vs.length := by rw [← e]; simp
  have hn : (vs.length.toInt32).toNatClampNeg = vs.length := by
    have := len_toInt l
    rw [Int32.toNatClampNeg, this]; rfl
  refine ⟨c.cls, c, A, rfl, by rw [hn, hsz], ?_, fun i hi => ?_, fun i hi => ?_⟩
  · have := len_toInt l
    rw [Int32.lt_iff_toInt_lt, this, Int32.toInt_zero]; omega
  · have hi' : i < vs.length := by omega
    subst e
    simp only [Array.length_toList] at hi'
    simp [List.getD, hi]
  · have hi' : i < vs.length := by omega
    rw [List.getD_eq_getElem?_getD, List.getElem?_eq_getElem hi', Option.getD_some]
    exact f _ (List.getElem_mem _)
theorem Ay.of_arv {k : ClassId} {z : Int32} {d : Value} (A : Arv Z h a k ty z vs d) (hl : z.toNatClampNeg = vs.length) : Ay Z h a ty vs := by
  obtain ⟨c, A, -, s, nn, H, G⟩ := A
  have hsz : c.slots.size = vs.length := by rw [s, hl]
  refine ⟨c, A, ?_, ?_, ?_⟩
  · refine List.ext_getElem (by simpa using hsz) fun i h1 h2 => ?_
    have hi : i < c.slots.size := by omega
    have q := H i hi
    rw [Array.getElem?_eq_getElem hi, List.getD_eq_getElem?_getD, List.getElem?_eq_getElem h2, Option.getD_some] at q
    simpa using q
  · rw [← hl]
    have := z.toInt_lt
    rw [Int32.toNatClampNeg]
    omega
  · intro v hv
    obtain ⟨i, hi, rfl⟩ := List.mem_iff_getElem.mp hv
    have q := G i (by omega)
    rw [List.getD_eq_getElem?_getD, List.getElem?_eq_getElem hi, Option.getD_some] at q
    exact q
theorem i32_nat {i : Nat} (h : i < 2 ^ 31) : (Int32.ofNat i).toNatClampNeg = i ∧ ¬ Int32.ofNat i < 0 := by
  have e : (Int32.ofNat i).toInt = i := Int32.toInt_ofNat_small h
  refine ⟨by rw [Int32.toNatClampNeg, e]; rfl, ?_⟩
  rw [Int32.lt_iff_toInt_lt, e, Int32.toInt_zero]; omega
theorem Ay.at (A : Ay Z h a ty vs) {i : Nat} {v : Value} (hi : vs[i]? = some v) : ∃ c : Cell, Arr Z h a c ty ∧ ¬ (Int32.ofNat i < 0 ∨ c.slots.size ≤ (Int32.ofNat i).toNatClampNeg) ∧ c.slots[(Int32.ofNat i).toNatClampNeg]? = some v := by
  obtain ⟨c, A, e, l, -⟩ := A
  have hlt : i < vs.length := (List.getElem?_eq_some_iff.mp hi).1
  obtain ⟨q1, q2⟩ := i32_nat (Nat.lt_trans hlt l)
  refine ⟨c, A, ?_, ?_⟩
  · rw [q1]; rintro (r | r)
    · exact q2 r
    · rw [← e] at hlt; simp at hlt; omega
  · rw [q1, ← Array.getElem?_toList, e]; exact hi
theorem Ay.set (A : Ay Z h a ty vs) {i : Nat} (hi : i < vs.length) {v : Value} (hv : fits ty v = true) : ∃ c : Cell, Arr Z h a c ty ∧ ¬ (Int32.ofNat i < 0 ∨ c.slots.size ≤ (Int32.ofNat i).toNatClampNeg) ∧ ∀ h', Wr h h' a (Int32.ofNat i).toNatClampNeg v → Ay Z h' a ty (vs.set i v) := by
  obtain ⟨c, A, e, l, f⟩ := A
  obtain ⟨q1, q2⟩ := i32_nat (Nat.lt_trans hi l)
  refine ⟨c, A, ?_, fun h' W => ⟨_, A.same W, ?_, by simpa using l, ?_⟩⟩
  · rw [q1]; rintro (r | r)
    · exact q2 r
    · rw [← e] at hi; simp at hi; omega
  · rw [q1]; simp [Cell.setSlot, e]
  · intro w hw
    rcases List.mem_or_eq_of_mem_set hw with r | r
    · exact f w r
    · rw [r]; exact hv
end Ay
section Heap
variable {nw : Bool} {l : Launch} {Z : State} {EL : List (String × Nat)} {own : String} {bytes : ByteArray} {maxL : Nat} {ret : Option FieldType} {mnm : String} {R : Room} {h0 : Heap} {B0 : BP} {ws : List Addr} {Q : QT} {x : Cx} {T : State} {h : Heap} {B : BP} {k n : Nat} {a0 : Array Value} {pc pc' : Nat} {Ls : Array Slot} {st : List Value}
theorem g_getfield (X : Wk nw l Z EL own bytes maxL ret mnm R h0 B0 ws Q x T h B k n) {R0 O nm d : String} {idx : Nat} (hd : Dc bytes pc (.getfield idx) 3 pc') (w : (Cond.fieldLink own idx R0 nm d).before a0 Z = true) (via : Via Z R0 O nm d) {a : Addr} {v : Value} (F : Fld Z h a O nm d v)
    (K : ∀ T', Wk nw l Z EL own bytes maxL ret mnm R h0 B0 ws Q x T' h B k n → Go x (T'.setTop (mkF x.m pc' Ls (v :: st)))) : Go x (T.setTop (mkF x.m pc Ls (.ref a :: st))) := by
  obtain ⟨S, vm0, k0, locs, X, eT, hS, hk, hZ, hown, r⟩ := X
  obtain ⟨hd, rfl⟩ := hd
  obtain ⟨T', X', e', stp⟩ := getF X S.1 hZ hown (host := "") (Or.inl w) via eT F (g := mkF x.m pc Ls (.ref a :: st)) rfl rfl (S.2.1 ▸ hd)
  exact (K T' ⟨S, vm0, k0, locs, X', e', hS, hk, hZ, hown, r⟩).from stp
theorem g_getstatic (X : Wk nw l Z EL own bytes maxL ret mnm R h0 B0 ws Q x T h B k n) {R0 O nm d : String} {idx : Nat} (hd : Dc bytes pc (.getstatic idx) 3 pc') (w : (Cond.fieldLink own idx R0 nm d).before a0 Z = true) (via : Via Z R0 O nm d) {v : Value} (F : Sta Z Z.heap O nm d v)
    (K : ∀ T', Wk nw l Z EL own bytes maxL ret mnm R h0 B0 ws Q x T' h B k n → Go x (T'.setTop (mkF x.m pc' Ls (v :: st)))) : Go x (T.setTop (mkF x.m pc Ls st)) := by
  have F' := F.ext X.old
  obtain ⟨S, vm0, k0, locs, X, eT, hS, hk, hZ, hown, r⟩ := X
  obtain ⟨hd, rfl⟩ := hd
  obtain ⟨T', X', e', stp⟩ := getS (host := "") X S.1 hZ hown w via eT F' (g := mkF x.m pc Ls st) rfl (S.2.1 ▸ hd)
  exact (K T' ⟨S, vm0, k0, locs, X', e', hS, hk, hZ, hown, r⟩).from stp
/-- a step that writes one place -/
theorem Wk.wrote {T' : State} {h' : Heap} {vm0 : Vm} {k0 : Nat} {locs : List Loc} {a : Addr} {sl : Nat} {v : Value} (W : Wr h h' a sl v) (hB : ¬ B a) (hz : Z.heap.size ≤ a) (hw : a ∈ ws ∨ h0.size ≤ a)
    (S : x.p.tables.exec = Jvm.exec ∧ x.c.code = bytes ∧ x.c.maxLocals = maxL ∧ x.meth.sig.returnType = ret ∧ x.meth.locks = false ∧ x.meth.name = mnm ∧ x.F = ConQ nw Z EL R h0 B0 ws Q x.s)
    (X' : Stand x.p l x.e R (x.s.setVm vm0) x.m x.args x.below x.meth x.c T' (locs ++ [⟨a, sl⟩]) k n) (e' : T'.heap = h') (hS : x.s.Since vm0 k0) (hk : k0 ≤ h.size) (hZ : Z.Warmed39 vm0) (hown : vm0.findClass own = some x.m.cls)
    (hI : k_inv Z EL B vm0 h) (hFr : Fr Z.heap.size locs) (hK : Keep h0 h ws) (hM : k_more B0 B h0.size) (hN : nw = true → x.s.WarmedH vm0) : Wk nw l Z EL own bytes maxL ret mnm R h0 B0 ws Q x T' h' B k n :=
  ⟨S, vm0, k0, _, X', e', hS, by rw [W.size]; exact hk, hZ, hown, hI.wr W hB hz, Fr.snoc X' hFr hz, hK.wr W hw, hM, hN⟩
theorem g_putfield (X : Wk nw l Z EL own bytes maxL ret mnm R h0 B0 ws Q x T h B k n) {R0 O nm d C : String} {idx kk : Nat} {ty : FieldType} (hd : Dc bytes pc (.putfield idx) 3 pc') (w : (Cond.fieldLink own idx R0 nm d).before a0 Z = true) (via : Via Z R0 O nm d) {a : Addr} {v v' old : Value} (F : Fld Z h a O nm d old) (E : Exa Z h a C)
    (L : (Cond.lays C O nm d).before a0 Z = true ∨ ((Cond.laysFinal C O nm d).before a0 Z = true ∧ own = O ∧ mnm = "<init>")) (wi : (Cond.instantiable C kk).before a0 Z = true) (hty : parseFieldDescriptor d = some ty) (hn : narrow ty v = v') (hf : fits ty v' = true)
    (hB : ¬ B a) (hz : Z.heap.size ≤ a) (hw : a ∈ ws ∨ h0.size ≤ a)
    (K : ∀ T' h', Wk nw l Z EL own bytes maxL ret mnm R h0 B0 ws Q x T' h' B k n → Wr h h' a (RoadKit.slotOf Z O nm d) v' → Go x (T'.setTop (mkF x.m pc' Ls st))) : Go x (T.setTop (mkF x.m pc Ls (v :: .ref a :: st))) := by
  obtain ⟨S, vm0, k0, locs, X, eT, hS, hk, hZ, hown, hI, hFr, hK, hM, hN⟩ := X
  obtain ⟨hd, rfl⟩ := hd
  obtain ⟨T', h', X', e', W, stp⟩ := putFN X S.1 hZ hown w via eT F E (L.imp id fun q => ⟨q.1, q.2.1, S.2.2.2.2.2.1.trans q.2.2⟩) wi hty hn hf (g := mkF x.m pc Ls (v :: .ref a :: st)) rfl rfl (S.2.1 ▸ hd)
  exact (K T' h' (Wk.wrote W hB hz hw S X' e' hS hk hZ hown hI hFr hK hM hN) W).from stp
theorem g_new (X : Wk nw l Z EL own bytes maxL ret mnm R h0 B0 ws Q x T h B k n) {C : String} {idx nf : Nat} (hd : Dc bytes pc (.new idx) 3 pc') (w : (Cond.classLink own idx C).before a0 Z = true) (wi : (Cond.instantiable C nf).before a0 Z = true) (wz : (Cond.initialized C).before a0 Z = true) (k' n' : Nat) (ek : k + 1 = k') (en : n + nf = n') (hc : k' ≤ R.cells) (hs : n' ≤ R.slots)
    (K : ∀ T' h' a, Wk nw l Z EL own bytes maxL ret mnm R h0 B0 ws Q x T' h' B k' n' → Ext h h' → a = h.size → ¬ B a → Exa Z h' a C → (∀ {O nm d : String} {ty : FieldType}, Laid Z a0 C O nm d → parseFieldDescriptor d = some ty → Fld Z h' a O nm d (defaultValue ty)) → Go x (T'.setTop (mkF x.m pc' Ls (.ref a :: st)))) : Go x (T.setTop (mkF x.m pc Ls st)) := by
  have hB := X.fresh
  subst ek en
  obtain ⟨S, vm0, k0, locs, X, eT, hS, hk, hZ, hown, hI, hFr, hK, hM, hN⟩ := X
  obtain ⟨hd, rfl⟩ := hd
  obtain ⟨T', h', X', e', E, A, D, -, stp⟩ := newO X S.1 hZ hown w wi wz eT (g := mkF x.m pc Ls st) rfl (S.2.1 ▸ hd) hc hs
  exact (K T' h' _ ⟨S, vm0, k0, locs, X', e', hS, Nat.le_trans hk E.1, hZ, hown, hI.ext E, hFr, hK.ext E, hM, hN⟩ E rfl hB A D).from stp
theorem g_newarray (X : Wk nw l Z EL own bytes maxL ret mnm R h0 B0 ws Q x T h B k n) {aty : ArrayType} {ty : FieldType} (hd : Dc bytes pc (.newarray aty) 2 pc') (hty : newarray.typeOf aty = ty) (w : (Cond.arrayClass ty).before a0 Z = true) {j : Int32} (len cap : Nat) (hj : j = Int32.ofNat len) (hcap : len ≤ cap) (hbig : cap * 8 ≤ 536870912) (k' n' : Nat) (ek : k + 1 = k') (en : n + cap = n') (hc : k' ≤ R.cells) (hs : n' ≤ R.slots)
    (K : ∀ T' h' a, Wk nw l Z EL own bytes maxL ret mnm R h0 B0 ws Q x T' h' B k' n' → Ext h h' → a = h.size → ¬ B a → Ay Z h' a ty (List.replicate len (defaultValue ty)) → Go x (T'.setTop (mkF x.m pc' Ls (.ref a :: st)))) : Go x (T.setTop (mkF x.m pc Ls (.int j :: st))) := by
  have hB := X.fresh
  subst hty hj ek en
  obtain ⟨S, vm0, k0, locs, X, eT, hS, hk, hZ, hown, hI, hFr, hK, hM, hN⟩ := X
  obtain ⟨hd, rfl⟩ := hd
  have hlt : len < 2 ^ 31 := by omega
  obtain ⟨q1, q2⟩ := i32_nat hlt
  obtain ⟨T', h', cA, X', e', E, A, stp⟩ := newP X S.1 hZ w eT (g := mkF x.m pc Ls (.int (Int32.ofNat len) :: st)) rfl (S.2.1 ▸ hd) rfl q2 (cap := cap) (by rw [q1]; exact hcap) hbig hc hs
  refine (K T' h' _ ⟨S, vm0, k0, locs, X', e', hS, Nat.le_trans hk E.1, hZ, hown, hI.ext E, hFr, hK.ext E, hM, hN⟩ E rfl hB ⟨_, A, ?_, by simpa using hlt, ?_⟩).from stp
  · simp [newA, q1]
  · intro v hv
    rw [(List.mem_replicate.mp hv).2]
    cases aty <;> rfl
theorem g_arraylength (X : Wk nw l Z EL own bytes maxL ret mnm R h0 B0 ws Q x T h B k n) (hd : Dc bytes pc .arraylength 1 pc') {a : Addr} {ty : FieldType} {vs : List Value} (A : Ay Z h a ty vs) (r : Int32) (hr : Int32.ofNat vs.length = r)
    (G : Go x (T.setTop (mkF x.m pc' Ls (.int r :: st)))) : Go x (T.setTop (mkF x.m pc Ls (.ref a :: st))) := by
  subst hr
  obtain ⟨S, vm0, k0, locs, X, eT, hS, hk, hZ, hown, hI, hFr, hK, hM, hN⟩ := X
  obtain ⟨hd, rfl⟩ := hd
  obtain ⟨c, A, e, -, -⟩ := A
  refine G.from fun t q => X.arraylength S.1 (cell := c) (by rw [eT]; exact A.1) (State.isArrayOf_alike hZ.alike A.2.1) (g := mkF x.m pc Ls (.ref a :: st)) rfl rfl (S.2.1 ▸ hd) t ?_
  have hsz : c.slots.size = vs.length := by rw [← e]; simp
  rw [hsz]; exact q
theorem g_caload (X : Wk nw l Z EL own bytes maxL ret mnm R h0 B0 ws Q x T h B k n) (hd : Dc bytes pc .caload 1 pc') {a : Addr} {vs : List Value} (A : Ay Z h a .char vs) {j : Int32} (i : Nat) (hj : j = Int32.ofNat i) {v : Value} (hi : vs[i]? = some v)
    (G : Go x (T.setTop (mkF x.m pc' Ls (v :: st)))) : Go x (T.setTop (mkF x.m pc Ls (.int j :: .ref a :: st))) := by
  subst hj
  obtain ⟨S, vm0, k0, locs, X, eT, hS, hk, hZ, hown, hI, hFr, hK, hM, hN⟩ := X
  obtain ⟨hd, rfl⟩ := hd
  obtain ⟨c, A, h1, h2⟩ := A.at hi
  exact G.from fun t q => X.caload S.1 (by rw [eT]; exact A.1) (State.isArrayOf_alike hZ.alike A.2.1) A.2.2 h1 h2 (g := mkF x.m pc Ls (.int (Int32.ofNat i) :: .ref a :: st)) rfl rfl (S.2.1 ▸ hd) t q
theorem g_iaload (X : Wk nw l Z EL own bytes maxL ret mnm R h0 B0 ws Q x T h B k n) (hd : Dc bytes pc .iaload 1 pc') {a : Addr} {vs : List Value} (A : Ay Z h a .int vs) {j : Int32} (i : Nat) (hj : j = Int32.ofNat i) {v : Value} (hi : vs[i]? = some v)
    (G : Go x (T.setTop (mkF x.m pc' Ls (v :: st)))) : Go x (T.setTop (mkF x.m pc Ls (.int j :: .ref a :: st))) := by
  subst hj
  obtain ⟨S, vm0, k0, locs, X, eT, hS, hk, hZ, hown, hI, hFr, hK, hM, hN⟩ := X
  obtain ⟨hd, rfl⟩ := hd
  obtain ⟨c, A, h1, h2⟩ := A.at hi
  exact G.from fun t q => X.iaload S.1 (by rw [eT]; exact A.1) (State.isArrayOf_alike hZ.alike A.2.1) A.2.2 h1 h2 (g := mkF x.m pc Ls (.int (Int32.ofNat i) :: .ref a :: st)) rfl rfl (S.2.1 ▸ hd) t q
theorem g_laload (X : Wk nw l Z EL own bytes maxL ret mnm R h0 B0 ws Q x T h B k n) (hd : Dc bytes pc .laload 1 pc') {a : Addr} {vs : List Value} (A : Ay Z h a .long vs) {j : Int32} (i : Nat) (hj : j = Int32.ofNat i) {v : Value} (hi : vs[i]? = some v)
    (G : Go x (T.setTop (mkF x.m pc' Ls (v :: st)))) : Go x (T.setTop (mkF x.m pc Ls (.int j :: .ref a :: st))) := by
  subst hj
  obtain ⟨S, vm0, k0, locs, X, eT, hS, hk, hZ, hown, hI, hFr, hK, hM, hN⟩ := X
  obtain ⟨hd, rfl⟩ := hd
  obtain ⟨c, A, h1, h2⟩ := A.at hi
  exact G.from fun t q => X.laload S.1 (by rw [eT]; exact A.1) (State.isArrayOf_alike hZ.alike A.2.1) A.2.2 h1 h2 (g := mkF x.m pc Ls (.int (Int32.ofNat i) :: .ref a :: st)) rfl rfl (S.2.1 ▸ hd) t q
theorem g_baload (X : Wk nw l Z EL own bytes maxL ret mnm R h0 B0 ws Q x T h B k n) (hd : Dc bytes pc .baload 1 pc') {a : Addr} {vs : List Value} (A : Ay Z h a .byte vs) {j : Int32} (i : Nat) (hj : j = Int32.ofNat i) {v : Value} (hi : vs[i]? = some v)
    (G : Go x (T.setTop (mkF x.m pc' Ls (v :: st)))) : Go x (T.setTop (mkF x.m pc Ls (.int j :: .ref a :: st))) := by
  subst hj
  obtain ⟨S, vm0, k0, locs, X, eT, hS, hk, hZ, hown, hI, hFr, hK, hM, hN⟩ := X
  obtain ⟨hd, rfl⟩ := hd
  obtain ⟨c, A, h1, h2⟩ := A.at hi
  exact G.from fun t q => X.baloadBytes S.1 (by rw [eT]; exact A.1) (State.isArrayOf_alike hZ.alike A.2.1) A.2.2 h1 h2 (g := mkF x.m pc Ls (.int (Int32.ofNat i) :: .ref a :: st)) rfl rfl (S.2.1 ▸ hd) t q
theorem g_aaload (X : Wk nw l Z EL own bytes maxL ret mnm R h0 B0 ws Q x T h B k n) (hd : Dc bytes pc .aaload 1 pc') {a : Addr} {ty : FieldType} (hty : ty.isReference = true) {vs : List Value} (A : Ay Z h a ty vs) {j : Int32} (i : Nat) (hj : j = Int32.ofNat i) {v : Value} (hi : vs[i]? = some v)
    (G : Go x (T.setTop (mkF x.m pc' Ls (v :: st)))) : Go x (T.setTop (mkF x.m pc Ls (.int j :: .ref a :: st))) := by
  subst hj
  obtain ⟨S, vm0, k0, locs, X, eT, hS, hk, hZ, hown, hI, hFr, hK, hM, hN⟩ := X
  obtain ⟨hd, rfl⟩ := hd
  obtain ⟨c, A, h1, h2⟩ := A.at hi
  exact G.from fun t q => X.aaload S.1 (by rw [eT]; exact A.1) (State.isArrayOf_alike hZ.alike A.2.1) hty A.2.2 h1 h2 (g := mkF x.m pc Ls (.int (Int32.ofNat i) :: .ref a :: st)) rfl rfl (S.2.1 ▸ hd) t q
theorem g_iastore (X : Wk nw l Z EL own bytes maxL ret mnm R h0 B0 ws Q x T h B k n) (hd : Dc bytes pc .iastore 1 pc') {a : Addr} {vs : List Value} (A : Ay Z h a .int vs) {j : Int32} (i : Nat) (hj : j = Int32.ofNat i) {v : Int32} (v' : Int32) (hv : v = v') (hi : i < vs.length) (hB : ¬ B a) (hz : Z.heap.size ≤ a) (hw : a ∈ ws ∨ h0.size ≤ a)
    (K : ∀ T' h', Wk nw l Z EL own bytes maxL ret mnm R h0 B0 ws Q x T' h' B k n → Keep h h' [a] → Ay Z h' a .int (vs.set i (.int v')) → Go x (T'.setTop (mkF x.m pc' Ls st))) : Go x (T.setTop (mkF x.m pc Ls (.int v :: .int j :: .ref a :: st))) := by
  subst hj hv
  obtain ⟨S, vm0, k0, locs, X, eT, hS, hk, hZ, hown, hI, hFr, hK, hM, hN⟩ := X
  obtain ⟨hd, rfl⟩ := hd
  obtain ⟨c, A, h1, h2⟩ := A.set hi (v := .int v) rfl
  obtain ⟨T', h', X', e', Wr', stp⟩ := stI X S.1 hZ eT A h1 (g := mkF x.m pc Ls (.int v :: .int (Int32.ofNat i) :: .ref a :: st)) rfl rfl (S.2.1 ▸ hd)
  exact (K T' h' (Wk.wrote Wr' hB hz hw S X' e' hS hk hZ hown hI hFr hK hM hN) (Keep.of_wr Wr') (h2 h' Wr')).from stp
theorem g_castore (X : Wk nw l Z EL own bytes maxL ret mnm R h0 B0 ws Q x T h B k n) (hd : Dc bytes pc .castore 1 pc') {a : Addr} {vs : List Value} (A : Ay Z h a .char vs) {j : Int32} (i : Nat) (hj : j = Int32.ofNat i) {v : Int32} (v' : Int32) (hv : (RoadKit.nar .char v) = v') (hi : i < vs.length) (hB : ¬ B a) (hz : Z.heap.size ≤ a) (hw : a ∈ ws ∨ h0.size ≤ a)
    (K : ∀ T' h', Wk nw l Z EL own bytes maxL ret mnm R h0 B0 ws Q x T' h' B k n → Keep h h' [a] → Ay Z h' a .char (vs.set i (.int v')) → Go x (T'.setTop (mkF x.m pc' Ls st))) : Go x (T.setTop (mkF x.m pc Ls (.int v :: .int j :: .ref a :: st))) := by
  subst hj hv
  obtain ⟨S, vm0, k0, locs, X, eT, hS, hk, hZ, hown, hI, hFr, hK, hM, hN⟩ := X
  obtain ⟨hd, rfl⟩ := hd
  obtain ⟨c, A, h1, h2⟩ := A.set hi (v := .int (RoadKit.nar .char v)) (fits_nar_char v)
  obtain ⟨T', h', X', e', Wr', stp⟩ := stC X S.1 hZ eT A h1 (g := mkF x.m pc Ls (.int v :: .int (Int32.ofNat i) :: .ref a :: st)) rfl rfl (S.2.1 ▸ hd)
  exact (K T' h' (Wk.wrote Wr' hB hz hw S X' e' hS hk hZ hown hI hFr hK hM hN) (Keep.of_wr Wr') (h2 h' Wr')).from stp
theorem g_bastore (X : Wk nw l Z EL own bytes maxL ret mnm R h0 B0 ws Q x T h B k n) (hd : Dc bytes pc .bastore 1 pc') {a : Addr} {vs : List Value} (A : Ay Z h a .byte vs) {j : Int32} (i : Nat) (hj : j = Int32.ofNat i) {v : Int32} (v' : Int32) (hv : (RoadKit.nar .byte v) = v') (hi : i < vs.length) (hB : ¬ B a) (hz : Z.heap.size ≤ a) (hw : a ∈ ws ∨ h0.size ≤ a)
    (K : ∀ T' h', Wk nw l Z EL own bytes maxL ret mnm R h0 B0 ws Q x T' h' B k n → Keep h h' [a] → Ay Z h' a .byte (vs.set i (.int v')) → Go x (T'.setTop (mkF x.m pc' Ls st))) : Go x (T.setTop (mkF x.m pc Ls (.int v :: .int j :: .ref a :: st))) := by
  subst hj hv
  obtain ⟨S, vm0, k0, locs, X, eT, hS, hk, hZ, hown, hI, hFr, hK, hM, hN⟩ := X
  obtain ⟨hd, rfl⟩ := hd
  obtain ⟨c, A, h1, h2⟩ := A.set hi (v := .int (RoadKit.nar .byte v)) (fits_nar_byte v)
  obtain ⟨T', h', X', e', Wr', stp⟩ := stB X S.1 hZ eT A h1 (g := mkF x.m pc Ls (.int v :: .int (Int32.ofNat i) :: .ref a :: st)) rfl rfl (S.2.1 ▸ hd)
  exact (K T' h' (Wk.wrote Wr' hB hz hw S X' e' hS hk hZ hown hI hFr hK hM hN) (Keep.of_wr Wr') (h2 h' Wr')).from stp
theorem g_lastore (X : Wk nw l Z EL own bytes maxL ret mnm R h0 B0 ws Q x T h B k n) (hd : Dc bytes pc .lastore 1 pc') {a : Addr} {vs : List Value} (A : Ay Z h a .long vs) {j : Int32} (i : Nat) (hj : j = Int32.ofNat i) {v : Int64} (v' : Int64) (hv : v = v') (hi : i < vs.length) (hB : ¬ B a) (hz : Z.heap.size ≤ a) (hw : a ∈ ws ∨ h0.size ≤ a)
    (K : ∀ T' h', Wk nw l Z EL own bytes maxL ret mnm R h0 B0 ws Q x T' h' B k n → Keep h h' [a] → Ay Z h' a .long (vs.set i (.long v')) → Go x (T'.setTop (mkF x.m pc' Ls st))) : Go x (T.setTop (mkF x.m pc Ls (.long v :: .int j :: .ref a :: st))) := by
  subst hj hv
  obtain ⟨S, vm0, k0, locs, X, eT, hS, hk, hZ, hown, hI, hFr, hK, hM, hN⟩ := X
  obtain ⟨hd, rfl⟩ := hd
  obtain ⟨c, A, h1, h2⟩ := A.set hi (v := .long v) rfl
  obtain ⟨T', h', X', e', Wr', stp⟩ := stJ X S.1 hZ eT A h1 (g := mkF x.m pc Ls (.long v :: .int (Int32.ofNat i) :: .ref a :: st)) rfl rfl (S.2.1 ▸ hd)
  exact (K T' h' (Wk.wrote Wr' hB hz hw S X' e' hS hk hZ hown hI hFr hK hM hN) (Keep.of_wr Wr') (h2 h' Wr')).from stp
end Heap
/-! own kit, part 4: calls, constants, casts -/
/-- pure: the value r, the heap as it was -/
def PQ (r : Option Value) (h0 : Heap) (B0 : BP) : QT := fun v h B => v = r ∧ h = h0 ∧ B = B0
theorem k_ws1 {B : BP} {Z : State} {ws : List Addr} {h0 : Heap} {a : Addr} (q : ¬ B a ∧ Z.heap.size ≤ a ∧ (a ∈ ws ∨ h0.size ≤ a)) : ∀ z ∈ [a], ¬ B z ∧ Z.heap.size ≤ z ∧ (z ∈ ws ∨ h0.size ≤ z) := fun z hz => by cases List.mem_singleton.mp hz; exact q
theorem k_wsC {B : BP} {Z : State} {ws : List Addr} {h0 : Heap} {a : Addr} {L : List Addr} (q : ¬ B a ∧ Z.heap.size ≤ a ∧ (a ∈ ws ∨ h0.size ≤ a)) (r : ∀ z ∈ L, ¬ B z ∧ Z.heap.size ≤ z ∧ (z ∈ ws ∨ h0.size ≤ z)) : ∀ z ∈ a :: L, ¬ B z ∧ Z.heap.size ≤ z ∧ (z ∈ ws ∨ h0.size ≤ z) := fun z hz => by
  rcases List.mem_cons.mp hz with e | e
  · subst e; exact q
  · exact r z e
theorem k_narref (t : FieldType) {v : Value} (h : v.isRef = true) : narrow t v = v := by
  rcases ref_cases h with rfl | ⟨a, rfl⟩ <;> cases t <;> rfl
theorem k_fitref {t : FieldType} {v : Value} (ht : refKind t = true) (h : v.isRef = true) : fits t v = true := by
  rcases ref_cases h with rfl | ⟨a, rfl⟩ <;> cases t <;> first | rfl | cases ht
theorem k_top {x : Cx} {T : State} {pc : Nat} {Ls : Array Slot} {st : List Value} {v v' : Value} (e : v = v') (G : Go x (T.setTop (mkF x.m pc Ls (v' :: st)))) : Go x (T.setTop (mkF x.m pc Ls (v :: st))) := by subst e; exact G
section Calls
variable {nw : Bool} {l : Launch} {Z : State} {EL : List (String × Nat)} {own : String} {bytes : ByteArray} {maxL : Nat} {ret : Option FieldType} {mnm : String} {R : Room} {h0 : Heap} {B0 : BP} {ws : List Addr} {Q : QT} {x : Cx} {T : State} {h : Heap} {B : BP} {k n : Nat} {a0 : Array Value} {pc pc' : Nat} {Ls : Array Slot} {st : List Value}
/-- a callee's promise, as the library's calls take it -/
theorem conBack {p : Program} {e : Env} {below : List Frame} {s : State} {args : Array Value} {vm0 : Vm} {len W : Nat} {y : MethodName} {bytes' : ByteArray} {maxL' : Nat} {ret' : Option FieldType} {rm : Room} {as : Array Value} {ws' : List Addr} {Q' : QT}
    (C : Con nw l Z EL y bytes' maxL' ret' [] rm as h B ws' Q') (hZ : Z.Warmed39 vm0) (wc : (Cond.code y bytes' maxL' ret').before a0 Z = true) (wz : (Cond.initialized y.cls).before a0 Z = true) (hf : rm.frames + 1 ≤ R.frames) (hl : W + (maxL' + 11) + rm.locals ≤ R.locals) (hI : k_inv Z EL B vm0 h) :
    BackS l R p e below (s.setVm vm0) args y len W (fun A a => a = as ∧ A.U.heap = h ∧ A.cells + rm.cells ≤ R.cells ∧ A.slots + rm.slots ≤ R.slots)
      (fun A _ v D => ∃ L B', Q' v D.U.heap B' ∧ Keep h D.U.heap ws' ∧ k_more B B' h.size ∧ Fr Z.heap.size L ∧ D.locs = A.locs ++ L ∧ D.cells = A.cells + rm.cells ∧ D.slots = A.slots + rm.slots ∧ k_inv Z EL B' D.U.vm D.U.heap ∧ (nw = true → (s.setVm vm0).WarmedH D.U.vm)) :=
  BackS.of_freeW (bytes := bytes') (maxL := maxL') (ret := ret')
    (E := fun _ first o t L k n => k = rm.cells ∧ n = rm.slots ∧ ∃ v B', o = .returned v ∧ Q' v t.heap B' ∧ Keep h t.heap ws' ∧ k_more B B' h.size ∧ Fr Z.heap.size L ∧ k_inv Z EL B' t.vm t.heap ∧ (nw = true → first.WarmedH t.vm)) C hf hl
    (fun m meth c A a Y hp => have hU : Z.Warmed39 A.U.vm := wtrans (s := s.setVm vm0) hZ Y.warmed
      ⟨by show (Cond.and _ .tt).before a A.U = true; rw [Cond.before_and, mv hU wc]; rfl, mv hU wc, mv hU wz, hp.2.2.1, hp.2.2.2⟩)
    (fun m meth c A a g mk Y hp => ⟨hp.1, wtrans (s := s.setVm vm0) hZ Y.warmed, hp.2.1, (have q := hI.vmT Y hZ; q)⟩) (fun _ _ _ _ _ _ _ _ _ => trivial)
    (fun _ _ _ _ ⟨v, L, B', q1, q2, q3, q4, q5, q6, q7⟩ => ⟨L, _, _, q7.1, rfl, rfl, v, B', q1, q2, q3, q4, q5, q6, q7.2⟩)
    (fun m meth c A a g mk v t L k n Y hp _ _ ⟨e1, e2, v', B', q1, q2, q3, q4, q5, q6, q7⟩ => by
      cases q1; subst e1 e2
      exact ⟨L, B', q2, q3, q4, q5, rfl, rfl, rfl, q6, fun r => State.WarmedH.trans Y.warmed (q7 r)⟩)
theorem Wk.called {T' : State} {h' : Heap} {B' : BP} {vm0 vm1 : Vm} {k0 k' n' : Nat} {locs L : List Loc} {ws' : List Addr} (hK' : Keep h h' ws') (hws : ∀ z ∈ ws', ¬ B z ∧ Z.heap.size ≤ z ∧ (z ∈ ws ∨ h0.size ≤ z)) (hM' : k_more B B' h.size) (hFr' : Fr Z.heap.size L) (hI' : k_inv Z EL B' vm1 h')
    (S : x.p.tables.exec = Jvm.exec ∧ x.c.code = bytes ∧ x.c.maxLocals = maxL ∧ x.meth.sig.returnType = ret ∧ x.meth.locks = false ∧ x.meth.name = mnm ∧ x.F = ConQ nw Z EL R h0 B0 ws Q x.s)
    (X' : Stand x.p l x.e R ((x.s.setVm vm0).setVm vm1) x.m x.args x.below x.meth x.c T' (locs ++ L) k' n') (e' : T'.heap = h') (hS : x.s.Since vm0 k0) (hk : k0 ≤ h.size) (hS' : (x.s.setVm vm0).Since vm1 h'.size) (hZ : Z.Warmed39 vm0) (hown : vm0.findClass own = some x.m.cls)
    (hFr : Fr Z.heap.size locs) (hK : Keep h0 h ws) (hM : k_more B0 B h0.size) (hN : nw = true → x.s.WarmedH vm0) (hN' : nw = true → (x.s.setVm vm0).WarmedH vm1) : Wk nw l Z EL own bytes maxL ret mnm R h0 B0 ws Q x T' h' B' k' n' := by
  obtain ⟨q1, q2, q3, q4⟩ := rebS (Z := Z) (own := own) hS hk X' hS' hK'.1 hZ hown
  exact ⟨S, vm1, h'.size, _, q1, e', q2, Nat.le_refl _, q3, q4, hI', hFr.app hFr', hK.trans hK' fun z hz => (hws z hz).2.2, hM.trans hM' hK.1, fun r => State.WarmedH.trans (t := x.s.setVm vm0) (hN r) (hN' r)⟩
abbrev noHandle (y : MethodName) : Prop := y.cls ≠ "java/lang/invoke/MethodHandle" ∧ y.cls ≠ "java/lang/invoke/VarHandle"
theorem g_callS (X : Wk nw l Z EL own bytes maxL ret mnm R h0 B0 ws Q x T h B k n) {y : MethodName} {idx : Nat} {bytes' : ByteArray} {maxL' : Nat} {ret' : Option FieldType} {rm : Room} {ws' : List Addr} {Q' : QT} {ps : List FieldType} {rt : Option FieldType} (hd : Dc bytes pc (.invokestatic idx) 3 pc')
    (w1 : (Cond.methodLink own idx y).before a0 Z = true) (w2 : (Cond.static y).before a0 Z = true) (w3 : (Cond.initialized y.cls).before a0 Z = true) (w4 : (Cond.code y bytes' maxL' ret').before a0 Z = true) (hy : noHandle y) (hpd : parseMethodDescriptor y.desc = some ⟨ps, rt⟩)
    (argsL rest : List Value) (W : Nat) (C : Con nw l Z EL y bytes' maxL' ret' [] rm argsL.toArray h B ws' Q') (hlen : argsL.length = ps.length) (hst : st = argsL.reverse ++ rest) (hsz : Ls.size = maxL) (hW : (rest.map fun v => v.category).sum ≤ W) (hf : rm.frames + 1 ≤ R.frames) (hl : W + (maxL' + 11) + rm.locals ≤ R.locals) (k' n' : Nat) (ek : k + rm.cells = k') (en : n + rm.slots = n') (hc : k' ≤ R.cells) (hs : n' ≤ R.slots)
    (hws : ∀ z ∈ ws', ¬ B z ∧ Z.heap.size ≤ z ∧ (z ∈ ws ∨ h0.size ≤ z))
    (K : ∀ v T' h' B', Wk nw l Z EL own bytes maxL ret mnm R h0 B0 ws Q x T' h' B' k' n' → Keep h h' ws' → k_more B B' h.size → Q' v h' B' → Go x (T'.setTop (mkF x.m pc' Ls (v.toList ++ rest)))) : Go x (T.setTop (mkF x.m pc Ls st)) := by
  subst ek en
  obtain ⟨S, vm0, k0, locs, X, eT, hS, hk, hZ, hown, hI, hFr, hK, hM, hN⟩ := X
  obtain ⟨hd, rfl⟩ := hd
  obtain ⟨v, vm₁, ⟨T', L', k'', n''⟩, -, X', hS', hgr, ⟨L, B', q1, q2, q3, q4, e1, e2, e3, q5, q6⟩, stp⟩ := callSS X S.1 hown (mvT (s := x.s.setVm vm0) hZ w1) (mvT (s := x.s.setVm vm0) hZ w2) (mvT (s := x.s.setVm vm0) hZ w3) (mvT (s := x.s.setVm vm0) hZ w4) hy (conBack (W := W) C hZ w4 w3 hf hl hI) (g := mkF x.m pc Ls st) rfl (by rw [S.2.2.1]; exact hsz) (lenOf hpd hlen) hst (by show 2 * 0 + _ ≤ _; omega) (S.2.1 ▸ hd) (fun _ _ => ⟨rfl, eT, hc, hs⟩)
  dsimp only [Pt.U, Pt.locs, Pt.cells, Pt.slots] at X' hS' hgr q1 q2 q5 q6 e1 e2 e3 stp
  subst e1 e2 e3
  exact (K v T' _ B' (Wk.called q2 hws q3 q4 q5 S X' rfl hS hk hS' hZ hown hFr hK hM hN q6) q2 q3 q1).from fun t q => stp.trans q
theorem g_callI (X : Wk nw l Z EL own bytes maxL ret mnm R h0 B0 ws Q x T h B k n) {y : MethodName} {idx : Nat} {bytes' : ByteArray} {maxL' : Nat} {rm : Room} {ws' : List Addr} {Q' : QT} {ps : List FieldType} {rt : Option FieldType} (hd : Dc bytes pc (.invokespecial idx) 3 pc')
    (w1 : (Cond.methodLink own idx y).before a0 Z = true) (w2 : (Cond.instanceMethod y).before a0 Z = true) (w3 : (Cond.initialized y.cls).before a0 Z = true) (w4 : (Cond.code y bytes' maxL' none).before a0 Z = true) (hn : y.name = "<init>") (hy : noHandle y) (hpd : parseMethodDescriptor y.desc = some ⟨ps, rt⟩)
    (a : Addr) (argsL rest : List Value) (W : Nat) (C : Con nw l Z EL y bytes' maxL' none [] rm (.ref a :: argsL).toArray h B ws' Q') (hlen : argsL.length = ps.length) (hst : st = argsL.reverse ++ .ref a :: rest) (hsz : Ls.size = maxL) (hW : (rest.map fun v => v.category).sum ≤ W) (hf : rm.frames + 1 ≤ R.frames) (hl : W + (maxL' + 11) + rm.locals ≤ R.locals) (k' n' : Nat) (ek : k + rm.cells = k') (en : n + rm.slots = n') (hc : k' ≤ R.cells) (hs : n' ≤ R.slots)
    (hws : ∀ z ∈ ws', ¬ B z ∧ Z.heap.size ≤ z ∧ (z ∈ ws ∨ h0.size ≤ z))
    (K : ∀ v T' h' B', Wk nw l Z EL own bytes maxL ret mnm R h0 B0 ws Q x T' h' B' k' n' → Keep h h' ws' → k_more B B' h.size → Q' v h' B' → Go x (T'.setTop (mkF x.m pc' Ls (v.toList ++ rest)))) : Go x (T.setTop (mkF x.m pc Ls st)) := by
  subst ek en
  obtain ⟨S, vm0, k0, locs, X, eT, hS, hk, hZ, hown, hI, hFr, hK, hM, hN⟩ := X
  obtain ⟨hd, rfl⟩ := hd
  obtain ⟨v, vm₁, ⟨T', L', k'', n''⟩, -, X', hS', hgr, ⟨L, B', q1, q2, q3, q4, e1, e2, e3, q5, q6⟩, stp⟩ := X.specialBackS S.1 hn hown (mvT (s := x.s.setVm vm0) hZ w1) (mvT (s := x.s.setVm vm0) hZ w2) (mvT (s := x.s.setVm vm0) hZ w4) hy (conBack (W := W) C hZ w4 w3 hf hl hI) (g := mkF x.m pc Ls st) rfl (by rw [S.2.2.1]; exact hsz) (Steps.refl _) (lenOf hpd hlen) hst (by show 2 * 0 + _ ≤ _; omega) (S.2.1 ▸ hd) (fun _ _ => ⟨rfl, eT, hc, hs⟩)
  dsimp only [Pt.U, Pt.locs, Pt.cells, Pt.slots] at X' hS' hgr q1 q2 q5 q6 e1 e2 e3 stp
  subst e1 e2 e3
  exact (K v T' _ B' (Wk.called q2 hws q3 q4 q5 S X' rfl hS hk hS' hZ hown hFr hK hM hN q6) q2 q3 q1).from fun t q => stp.trans q
theorem g_callN (X : Wk nw l Z EL own bytes maxL ret mnm R h0 B0 ws Q x T h B k n) {host : String} {y : MethodName} {idx : Nat} {bytes' : ByteArray} {maxL' : Nat} {rm : Room} {ws' : List Addr} {Q' : QT} {ps : List FieldType} {rt : Option FieldType} (hd : Dc bytes pc (.invokespecial idx) 3 pc')
    (w1 : (Cond.methodLinkNest own idx y host).before a0 Z = true) (w2 : (Cond.instanceMethod y).before a0 Z = true) (w3 : (Cond.initialized y.cls).before a0 Z = true) (w4 : (Cond.code y bytes' maxL' none).before a0 Z = true) (hn : y.name = "<init>") (hy : noHandle y) (hpd : parseMethodDescriptor y.desc = some ⟨ps, rt⟩)
    (a : Addr) (argsL rest : List Value) (W : Nat) (C : Con nw l Z EL y bytes' maxL' none [] rm (.ref a :: argsL).toArray h B ws' Q') (hlen : argsL.length = ps.length) (hst : st = argsL.reverse ++ .ref a :: rest) (hsz : Ls.size = maxL) (hW : (rest.map fun v => v.category).sum ≤ W) (hf : rm.frames + 1 ≤ R.frames) (hl : W + (maxL' + 11) + rm.locals ≤ R.locals) (k' n' : Nat) (ek : k + rm.cells = k') (en : n + rm.slots = n') (hc : k' ≤ R.cells) (hs : n' ≤ R.slots)
    (hws : ∀ z ∈ ws', ¬ B z ∧ Z.heap.size ≤ z ∧ (z ∈ ws ∨ h0.size ≤ z))
    (K : ∀ v T' h' B', Wk nw l Z EL own bytes maxL ret mnm R h0 B0 ws Q x T' h' B' k' n' → Keep h h' ws' → k_more B B' h.size → Q' v h' B' → Go x (T'.setTop (mkF x.m pc' Ls (v.toList ++ rest)))) : Go x (T.setTop (mkF x.m pc Ls st)) := by
  subst ek en
  obtain ⟨S, vm0, k0, locs, X, eT, hS, hk, hZ, hown, hI, hFr, hK, hM, hN⟩ := X
  obtain ⟨hd, rfl⟩ := hd
  obtain ⟨v, vm₁, ⟨T', L', k'', n''⟩, -, X', hS', hgr, ⟨L, B', q1, q2, q3, q4, e1, e2, e3, q5, q6⟩, stp⟩ := X.specialBackNestS S.1 hn hown (Cond.methodLinkNest_wide hZ w1 :) (mvT (s := x.s.setVm vm0) hZ w2) (mvT (s := x.s.setVm vm0) hZ w4) hy (conBack (W := W) C hZ w4 w3 hf hl hI) (g := mkF x.m pc Ls st) rfl (by rw [S.2.2.1]; exact hsz) (Steps.refl _) (lenOf hpd hlen) hst (by show 2 * 0 + _ ≤ _; omega) (S.2.1 ▸ hd) (fun _ _ => ⟨rfl, eT, hc, hs⟩)
  dsimp only [Pt.U, Pt.locs, Pt.cells, Pt.slots] at X' hS' hgr q1 q2 q5 q6 e1 e2 e3 stp
  subst e1 e2 e3
  exact (K v T' _ B' (Wk.called q2 hws q3 q4 q5 S X' rfl hS hk hS' hZ hown hFr hK hM hN q6) q2 q3 q1).from fun t q => stp.trans q
theorem g_callV (X : Wk nw l Z EL own bytes maxL ret mnm R h0 B0 ws Q x T h B k n) {D : String} {y : MethodName} {idx : Nat} {bytes' : ByteArray} {maxL' : Nat} {ret' : Option FieldType} {rm : Room} {ws' : List Addr} {Q' : QT} {ps : List FieldType} {rt : Option FieldType} (hd : Dc bytes pc (.invokevirtual idx) 3 pc')
    (w1 : (Cond.methodLink own idx y).before a0 Z = true) (w2 : (Cond.declares y).before a0 Z = true) (w3 : (Cond.selects D y y).before a0 Z = true) (w4 : (Cond.instanceMethod y).before a0 Z = true) (w5 : (Cond.initialized y.cls).before a0 Z = true) (w6 : (Cond.code y bytes' maxL' ret').before a0 Z = true) (hy : noHandle y) (hpd : parseMethodDescriptor y.desc = some ⟨ps, rt⟩)
    (a : Addr) (argsL rest : List Value) (W : Nat) (E : Exa Z h a D) (C : Con nw l Z EL y bytes' maxL' ret' [] rm (.ref a :: argsL).toArray h B ws' Q') (hlen : argsL.length = ps.length) (hst : st = argsL.reverse ++ .ref a :: rest) (hsz : Ls.size = maxL) (hW : (rest.map fun v => v.category).sum ≤ W) (hf : rm.frames + 1 ≤ R.frames) (hl : W + (maxL' + 11) + rm.locals ≤ R.locals) (k' n' : Nat) (ek : k + rm.cells = k') (en : n + rm.slots = n') (hc : k' ≤ R.cells) (hs : n' ≤ R.slots)
    (hws : ∀ z ∈ ws', ¬ B z ∧ Z.heap.size ≤ z ∧ (z ∈ ws ∨ h0.size ≤ z))
    (K : ∀ v T' h' B', Wk nw l Z EL own bytes maxL ret mnm R h0 B0 ws Q x T' h' B' k' n' → Keep h h' ws' → k_more B B' h.size → Q' v h' B' → Go x (T'.setTop (mkF x.m pc' Ls (v.toList ++ rest)))) : Go x (T.setTop (mkF x.m pc Ls st)) := by
  subst ek en
  obtain ⟨S, vm0, k0, locs, X, eT, hS, hk, hZ, hown, hI, hFr, hK, hM, hN⟩ := X
  obtain ⟨hd, rfl⟩ := hd
  obtain ⟨cq, kq, qa, qb, qc⟩ := isOf (s := x.s.setVm vm0) hZ eT E
  obtain ⟨v, vm₁, ⟨T', L', k'', n''⟩, -, X', hS', hgr, ⟨L, B', q1, q2, q3, q4, e1, e2, e3, q5, q6⟩, stp⟩ := X.virtualBackS S.1 (y := y) (z := y) hown (mvT (s := x.s.setVm vm0) hZ w1) (mvT (s := x.s.setVm vm0) hZ w2) (notFace_of_selects (args := #[]) (mvT (s := x.s.setVm vm0) hZ w3)) (mvT (s := x.s.setVm vm0) hZ w3) (mvT (s := x.s.setVm vm0) hZ w4) hy (conBack (W := W) C hZ w6 w5 hf hl hI) qa qc (g := mkF x.m pc Ls st) rfl (by rw [S.2.2.1]; exact hsz) (Steps.refl _) (lenOf hpd hlen) hst (by show 2 * 0 + _ ≤ _; omega) (S.2.1 ▸ hd) (fun _ _ => ⟨rfl, eT, hc, hs⟩)
  dsimp only [Pt.U, Pt.locs, Pt.cells, Pt.slots] at X' hS' hgr q1 q2 q5 q6 e1 e2 e3 stp
  subst e1 e2 e3
  exact (K v T' _ B' (Wk.called q2 hws q3 q4 q5 S X' rfl hS hk hS' hZ hown hFr hK hM hN q6) q2 q3 q1).from fun t q => stp.trans q
theorem g_callSp (X : Wk nw l Z EL own bytes maxL ret mnm R h0 B0 ws Q x T h B k n) {y : MethodName} {idx : Nat} {bytes' : ByteArray} {maxL' : Nat} {ret' : Option FieldType} {rm : Room} {v : Value} {ps : List FieldType} {rt : Option FieldType} (hd : Dc bytes pc (.invokestatic idx) 3 pc')
    (w1 : (Cond.methodLink own idx y).before a0 Z = true) (w2 : (Cond.static y).before a0 Z = true) (w3 : (Cond.initialized y.cls).before a0 Z = true) (w4 : (Cond.code y bytes' maxL' ret').before a0 Z = true) (hy : noHandle y) (hpd : parseMethodDescriptor y.desc = some ⟨ps, rt⟩)
    (argsL rest : List Value) (W : Nat) (C : Con nw l Z EL y bytes' maxL' ret' [] rm argsL.toArray h B [] (PQ (some v) h B)) (hlen : argsL.length = ps.length) (hst : st = argsL.reverse ++ rest) (hsz : Ls.size = maxL) (hW : (rest.map fun v => v.category).sum ≤ W) (hf : rm.frames + 1 ≤ R.frames) (hl : W + (maxL' + 11) + rm.locals ≤ R.locals) (k' n' : Nat) (ek : k + rm.cells = k') (en : n + rm.slots = n') (hc : k' ≤ R.cells) (hs : n' ≤ R.slots)
    (K : ∀ T', Wk nw l Z EL own bytes maxL ret mnm R h0 B0 ws Q x T' h B k' n' → Go x (T'.setTop (mkF x.m pc' Ls (v :: rest)))) : Go x (T.setTop (mkF x.m pc Ls st)) :=
  g_callS X hd w1 w2 w3 w4 hy hpd argsL rest W C hlen hst hsz hW hf hl k' n' ek en hc hs (fun _ q => nomatch q) fun _ T' _ _ X' _ _ ⟨e1, e2, e3⟩ => by subst e1 e2 e3; exact K T' X'
theorem g_callSp0 (X : Wk nw l Z EL own bytes maxL ret mnm R h0 B0 ws Q x T h B k n) {y : MethodName} {idx : Nat} {bytes' : ByteArray} {maxL' : Nat} {ret' : Option FieldType} {rm : Room} {ps : List FieldType} {rt : Option FieldType} (hd : Dc bytes pc (.invokestatic idx) 3 pc')
    (w1 : (Cond.methodLink own idx y).before a0 Z = true) (w2 : (Cond.static y).before a0 Z = true) (w3 : (Cond.initialized y.cls).before a0 Z = true) (w4 : (Cond.code y bytes' maxL' ret').before a0 Z = true) (hy : noHandle y) (hpd : parseMethodDescriptor y.desc = some ⟨ps, rt⟩)
    (argsL rest : List Value) (W : Nat) (C : Con nw l Z EL y bytes' maxL' ret' [] rm argsL.toArray h B [] (PQ none h B)) (hlen : argsL.length = ps.length) (hst : st = argsL.reverse ++ rest) (hsz : Ls.size = maxL) (hW : (rest.map fun v => v.category).sum ≤ W) (hf : rm.frames + 1 ≤ R.frames) (hl : W + (maxL' + 11) + rm.locals ≤ R.locals) (k' n' : Nat) (ek : k + rm.cells = k') (en : n + rm.slots = n') (hc : k' ≤ R.cells) (hs : n' ≤ R.slots)
    (K : ∀ T', Wk nw l Z EL own bytes maxL ret mnm R h0 B0 ws Q x T' h B k' n' → Go x (T'.setTop (mkF x.m pc' Ls rest))) : Go x (T.setTop (mkF x.m pc Ls st)) :=
  g_callS X hd w1 w2 w3 w4 hy hpd argsL rest W C hlen hst hsz hW hf hl k' n' ek en hc hs (fun _ q => nomatch q) fun _ T' _ _ X' _ _ ⟨e1, e2, e3⟩ => by subst e1 e2 e3; exact K T' X'
theorem g_callVp (X : Wk nw l Z EL own bytes maxL ret mnm R h0 B0 ws Q x T h B k n) {D : String} {y : MethodName} {idx : Nat} {bytes' : ByteArray} {maxL' : Nat} {ret' : Option FieldType} {rm : Room} {v : Value} {ps : List FieldType} {rt : Option FieldType} (hd : Dc bytes pc (.invokevirtual idx) 3 pc')
    (w1 : (Cond.methodLink own idx y).before a0 Z = true) (w2 : (Cond.declares y).before a0 Z = true) (w3 : (Cond.selects D y y).before a0 Z = true) (w4 : (Cond.instanceMethod y).before a0 Z = true) (w5 : (Cond.initialized y.cls).before a0 Z = true) (w6 : (Cond.code y bytes' maxL' ret').before a0 Z = true) (hy : noHandle y) (hpd : parseMethodDescriptor y.desc = some ⟨ps, rt⟩)
    (a : Addr) (argsL rest : List Value) (W : Nat) (E : Exa Z h a D) (C : Con nw l Z EL y bytes' maxL' ret' [] rm (.ref a :: argsL).toArray h B [] (PQ (some v) h B)) (hlen : argsL.length = ps.length) (hst : st = argsL.reverse ++ .ref a :: rest) (hsz : Ls.size = maxL) (hW : (rest.map fun v => v.category).sum ≤ W) (hf : rm.frames + 1 ≤ R.frames) (hl : W + (maxL' + 11) + rm.locals ≤ R.locals) (k' n' : Nat) (ek : k + rm.cells = k') (en : n + rm.slots = n') (hc : k' ≤ R.cells) (hs : n' ≤ R.slots)
    (K : ∀ T', Wk nw l Z EL own bytes maxL ret mnm R h0 B0 ws Q x T' h B k' n' → Go x (T'.setTop (mkF x.m pc' Ls (v :: rest)))) : Go x (T.setTop (mkF x.m pc Ls st)) :=
  g_callV X hd w1 w2 w3 w4 w5 w6 hy hpd a argsL rest W E C hlen hst hsz hW hf hl k' n' ek en hc hs (fun _ q => nomatch q) fun _ T' _ _ X' _ _ ⟨e1, e2, e3⟩ => by subst e1 e2 e3; exact K T' X'
theorem g_callVp0 (X : Wk nw l Z EL own bytes maxL ret mnm R h0 B0 ws Q x T h B k n) {D : String} {y : MethodName} {idx : Nat} {bytes' : ByteArray} {maxL' : Nat} {ret' : Option FieldType} {rm : Room} {ps : List FieldType} {rt : Option FieldType} (hd : Dc bytes pc (.invokevirtual idx) 3 pc')
    (w1 : (Cond.methodLink own idx y).before a0 Z = true) (w2 : (Cond.declares y).before a0 Z = true) (w3 : (Cond.selects D y y).before a0 Z = true) (w4 : (Cond.instanceMethod y).before a0 Z = true) (w5 : (Cond.initialized y.cls).before a0 Z = true) (w6 : (Cond.code y bytes' maxL' ret').before a0 Z = true) (hy : noHandle y) (hpd : parseMethodDescriptor y.desc = some ⟨ps, rt⟩)
    (a : Addr) (argsL rest : List Value) (W : Nat) (E : Exa Z h a D) (C : Con nw l Z EL y bytes' maxL' ret' [] rm (.ref a :: argsL).toArray h B [] (PQ none h B)) (hlen : argsL.length = ps.length) (hst : st = argsL.reverse ++ .ref a :: rest) (hsz : Ls.size = maxL) (hW : (rest.map fun v => v.category).sum ≤ W) (hf : rm.frames + 1 ≤ R.frames) (hl : W + (maxL' + 11) + rm.locals ≤ R.locals) (k' n' : Nat) (ek : k + rm.cells = k') (en : n + rm.slots = n') (hc : k' ≤ R.cells) (hs : n' ≤ R.slots)
    (K : ∀ T', Wk nw l Z EL own bytes maxL ret mnm R h0 B0 ws Q x T' h B k' n' → Go x (T'.setTop (mkF x.m pc' Ls rest))) : Go x (T.setTop (mkF x.m pc Ls st)) :=
  g_callV X hd w1 w2 w3 w4 w5 w6 hy hpd a argsL rest W E C hlen hst hsz hW hf hl k' n' ek en hc hs (fun _ q => nomatch q) fun _ T' _ _ X' _ _ ⟨e1, e2, e3⟩ => by subst e1 e2 e3; exact K T' X'
theorem g_callIp0 (X : Wk nw l Z EL own bytes maxL ret mnm R h0 B0 ws Q x T h B k n) {y : MethodName} {idx : Nat} {bytes' : ByteArray} {maxL' : Nat} {rm : Room} {ps : List FieldType} {rt : Option FieldType} (hd : Dc bytes pc (.invokespecial idx) 3 pc')
    (w1 : (Cond.methodLink own idx y).before a0 Z = true) (w2 : (Cond.instanceMethod y).before a0 Z = true) (w3 : (Cond.initialized y.cls).before a0 Z = true) (w4 : (Cond.code y bytes' maxL' none).before a0 Z = true) (hn : y.name = "<init>") (hy : noHandle y) (hpd : parseMethodDescriptor y.desc = some ⟨ps, rt⟩)
    (a : Addr) (argsL rest : List Value) (W : Nat) (C : Con nw l Z EL y bytes' maxL' none [] rm (.ref a :: argsL).toArray h B [] (PQ none h B)) (hlen : argsL.length = ps.length) (hst : st = argsL.reverse ++ .ref a :: rest) (hsz : Ls.size = maxL) (hW : (rest.map fun v => v.category).sum ≤ W) (hf : rm.frames + 1 ≤ R.frames) (hl : W + (maxL' + 11) + rm.locals ≤ R.locals) (k' n' : Nat) (ek : k + rm.cells = k') (en : n + rm.slots = n') (hc : k' ≤ R.cells) (hs : n' ≤ R.slots)
    (K : ∀ T', Wk nw l Z EL own bytes maxL ret mnm R h0 B0 ws Q x T' h B k' n' → Go x (T'.setTop (mkF x.m pc' Ls rest))) : Go x (T.setTop (mkF x.m pc Ls st)) :=
  g_callI X hd w1 w2 w3 w4 hn hy hpd a argsL rest W C hlen hst hsz hW hf hl k' n' ek en hc hs (fun _ q => nomatch q) fun _ T' _ _ X' _ _ ⟨e1, e2, e3⟩ => by subst e1 e2 e3; exact K T' X'
theorem g_callF (X : Wk nw l Z EL own bytes maxL ret mnm R h0 B0 ws Q x T h B k n) {D : String} {y z : MethodName} {idx cnt : Nat} {bytes' : ByteArray} {maxL' : Nat} {ret' : Option FieldType} {rm : Room} {ws' : List Addr} {Q' : QT} {ps : List FieldType} {rt : Option FieldType} (hd : Dc bytes pc (.invokeinterface idx cnt) 5 pc')
    (w1 : (Cond.methodLink own idx y).before a0 Z = true) (w2 : (Cond.declares y).before a0 Z = true) (wa : (Cond.interfaceMethod y.cls y.cls y.name y.desc).before a0 Z = true) (wb : (Cond.publicMethod z).before a0 Z = true) (wc : (Cond.unhidden D y.name y.desc).before a0 Z = true) (wd : (Cond.castable D y.cls).before a0 Z = true) (w3 : (Cond.selects D y z).before a0 Z = true) (w4 : (Cond.instanceMethod z).before a0 Z = true) (w5 : (Cond.initialized z.cls).before a0 Z = true) (w6 : (Cond.code z bytes' maxL' ret').before a0 Z = true) (hy : noHandle y) (hpd : parseMethodDescriptor y.desc = some ⟨ps, rt⟩)
    (a : Addr) (argsL rest : List Value) (W : Nat) (E : Exa Z h a D) (C : Con nw l Z EL z bytes' maxL' ret' [] rm (.ref a :: argsL).toArray h B ws' Q') (hlen : argsL.length = ps.length) (hst : st = argsL.reverse ++ .ref a :: rest) (hsz : Ls.size = maxL) (hW : (rest.map fun v => v.category).sum ≤ W) (hf : rm.frames + 1 ≤ R.frames) (hl : W + (maxL' + 11) + rm.locals ≤ R.locals) (k' n' : Nat) (ek : k + rm.cells = k') (en : n + rm.slots = n') (hc : k' ≤ R.cells) (hs : n' ≤ R.slots)
    (hws : ∀ z ∈ ws', ¬ B z ∧ Z.heap.size ≤ z ∧ (z ∈ ws ∨ h0.size ≤ z))
    (K : ∀ v T' h' B', Wk nw l Z EL own bytes maxL ret mnm R h0 B0 ws Q x T' h' B' k' n' → Keep h h' ws' → k_more B B' h.size → Q' v h' B' → Go x (T'.setTop (mkF x.m pc' Ls (v.toList ++ rest)))) : Go x (T.setTop (mkF x.m pc Ls st)) := by
  subst ek en
  obtain ⟨S, vm0, k0, locs, X, eT, hS, hk, hZ, hown, hI, hFr, hK, hM, hN⟩ := X
  obtain ⟨hd, rfl⟩ := hd
  obtain ⟨cq, kq, qa, qb, qc⟩ := isOf (s := x.s.setVm vm0) hZ eT E
  obtain ⟨v, vm₁, ⟨T', L', k'', n''⟩, -, X', hS', hgr, ⟨L, B', q1, q2, q3, q4, e1, e2, e3, q5, q6⟩, stp⟩ := X.interfaceBackS S.1 (xi := y) (y := z) hown (mvT (s := x.s.setVm vm0) hZ w1) (mvT (s := x.s.setVm vm0) hZ w2) (mvT (s := x.s.setVm vm0) hZ wa (by simp [Cond.onTables, Cond.keepsFace, Cond.keeps, Cond.faceAtom, hy.1, hy.2])) (mvT (s := x.s.setVm vm0) hZ w3) (mvT (s := x.s.setVm vm0) hZ w4) (mvT (s := x.s.setVm vm0) hZ wb) (mvT (s := x.s.setVm vm0) hZ wc) (mvT (s := x.s.setVm vm0) hZ wd) hy (conBack (W := W) C hZ w6 w5 hf hl hI) qa qb qc (g := mkF x.m pc Ls st) rfl (by rw [S.2.2.1]; exact hsz) (Steps.refl _) (lenOf hpd hlen) hst (by show 2 * 0 + _ ≤ _; omega) (S.2.1 ▸ hd) (fun _ _ => ⟨rfl, eT, hc, hs⟩)
  dsimp only [Pt.U, Pt.locs, Pt.cells, Pt.slots] at X' hS' hgr q1 q2 q5 q6 e1 e2 e3 stp
  subst e1 e2 e3
  exact (K v T' _ B' (Wk.called q2 hws q3 q4 q5 S X' rfl hS hk hS' hZ hown hFr hK hM hN q6) q2 q3 q1).from fun t q => stp.trans q
theorem g_callFp (X : Wk nw l Z EL own bytes maxL ret mnm R h0 B0 ws Q x T h B k n) {D : String} {y z : MethodName} {idx cnt : Nat} {bytes' : ByteArray} {maxL' : Nat} {ret' : Option FieldType} {rm : Room} {v : Value} {ps : List FieldType} {rt : Option FieldType} (hd : Dc bytes pc (.invokeinterface idx cnt) 5 pc')
    (w1 : (Cond.methodLink own idx y).before a0 Z = true) (w2 : (Cond.declares y).before a0 Z = true) (wa : (Cond.interfaceMethod y.cls y.cls y.name y.desc).before a0 Z = true) (wb : (Cond.publicMethod z).before a0 Z = true) (wc : (Cond.unhidden D y.name y.desc).before a0 Z = true) (wd : (Cond.castable D y.cls).before a0 Z = true) (w3 : (Cond.selects D y z).before a0 Z = true) (w4 : (Cond.instanceMethod z).before a0 Z = true) (w5 : (Cond.initialized z.cls).before a0 Z = true) (w6 : (Cond.code z bytes' maxL' ret').before a0 Z = true) (hy : noHandle y) (hpd : parseMethodDescriptor y.desc = some ⟨ps, rt⟩)
    (a : Addr) (argsL rest : List Value) (W : Nat) (E : Exa Z h a D) (C : Con nw l Z EL z bytes' maxL' ret' [] rm (.ref a :: argsL).toArray h B [] (PQ (some v) h B)) (hlen : argsL.length = ps.length) (hst : st = argsL.reverse ++ .ref a :: rest) (hsz : Ls.size = maxL) (hW : (rest.map fun v => v.category).sum ≤ W) (hf : rm.frames + 1 ≤ R.frames) (hl : W + (maxL' + 11) + rm.locals ≤ R.locals) (k' n' : Nat) (ek : k + rm.cells = k') (en : n + rm.slots = n') (hc : k' ≤ R.cells) (hs : n' ≤ R.slots)
    (K : ∀ T', Wk nw l Z EL own bytes maxL ret mnm R h0 B0 ws Q x T' h B k' n' → Go x (T'.setTop (mkF x.m pc' Ls (v :: rest)))) : Go x (T.setTop (mkF x.m pc Ls st)) :=
  g_callF X hd w1 w2 wa wb wc wd w3 w4 w5 w6 hy hpd a argsL rest W E C hlen hst hsz hW hf hl k' n' ek en hc hs (fun _ q => nomatch q) fun _ T' _ _ X' _ _ ⟨e1, e2, e3⟩ => by subst e1 e2 e3; exact K T' X'
/-- Object.<init> -/
theorem g_init (X : Wk nw l Z EL own bytes maxL ret mnm R h0 B0 ws Q x T h B k n) {idx : Nat} {y : MethodName} {ob : ByteArray} (hd : Dc bytes pc (.invokespecial idx) 3 pc') (hy : y = Lib.objectInit) (hob : ob = ⟨#[0xb1]⟩) (w1 : (Cond.methodLink own idx y).before a0 Z = true) (w2 : (Cond.instanceMethod y).before a0 Z = true) (w3 : (Cond.code y ob 1 none).before a0 Z = true)
    (W : Nat) (hsz : Ls.size = maxL) (hf : 1 ≤ R.frames) {a : Addr} (hW : (st.map fun v => v.category).sum ≤ W) (hl : W + 12 ≤ R.locals)
    (K : ∀ T', Wk nw l Z EL own bytes maxL ret mnm R h0 B0 ws Q x T' h B k n → Go x (T'.setTop (mkF x.m pc' Ls st))) : Go x (T.setTop (mkF x.m pc Ls (.ref a :: st))) := by
  subst hy hob
  obtain ⟨S, vm0, k0, locs, X, eT, hS, hk, hZ, hown, r⟩ := X
  obtain ⟨hd, rfl⟩ := hd
  obtain ⟨T', X', e', stp⟩ := initO X S.1 hZ hown w1 w2 w3 eT (g := mkF x.m pc Ls (.ref a :: st)) rfl (by rw [S.2.2.1]; exact hsz) rfl (S.2.1 ▸ hd) hf (W := W) (by show 2 * 0 + _ ≤ _; omega) hl
  exact (K T' ⟨S, vm0, k0, locs, X', e', hS, hk, hZ, hown, r⟩).from stp
/-- a String constant, unread -/
theorem g_ldcO (X : Wk nw l Z EL own bytes maxL ret mnm R h0 B0 ws Q x T h B k n) {idx : Nat} {text : String} (hnw : nw = false) (hd : Dc bytes pc (.ldc idx) 2 pc') (w : (Cond.stringLink own idx text).before a0 Z = true) (wS : ∀ a ∈ Bundle.stringAtoms, a.before a0 Z = true) (cap : Nat) (hn : 4 * text.toList.length ≤ cap) (hbig : cap ≤ 536870912) (k' n' : Nat) (ek : k + 2 = k') (en : n + (cap + 4) = n') (hc : k' ≤ R.cells) (hs : n' ≤ R.slots)
    (K : ∀ T' h' B' a, Wk nw l Z EL own bytes maxL ret mnm R h0 B0 ws Q x T' h' B' k' n' → Ext h h' → k_more B B' h.size → Go x (T'.setTop (mkF x.m pc' Ls (.ref a :: st)))) : Go x (T.setTop (mkF x.m pc Ls st)) := by
  subst hnw ek en
  obtain ⟨S, vm0, k0, locs, X, eT, hS, hk, hZ, hown, ⟨i1, i2, i3, i4, b0, i5⟩, hFr, hK, hM, hN⟩ := X
  obtain ⟨hd, rfl⟩ := hd
  have w' : (Cond.stringLink own idx text).before b0 Z = true := w
  have wS' : ∀ a ∈ Bundle.stringAtoms, a.before b0 Z = true := fun d hd => by
    have q := wS d hd
    simp only [Bundle.stringAtoms, List.mem_cons, List.not_mem_nil, or_false] at hd
    rcases hd with rfl | rfl | rfl | rfl | rfl | rfl | rfl <;> exact q
  obtain ⟨a, T', h', k1, X', e', E, hS', hk', hZ', hown', hC, -, stp⟩ := ldcOH X S.1 hZ hown w' wS' eT hS hk i5 i1 (g := mkF x.m pc Ls st) rfl (S.2.1 ▸ hd) hn hbig hc hs
  have hM' : k_more B (fun y => B y ∨ Bk Z EL T'.vm h' y) h.size := by
    refine ⟨?_, fun y q => Or.inl q⟩
    rintro y (q | q)
    · exact Or.inl q
    · rcases hC.2.2 y q with r | r
      · exact Or.inl (i2 y r)
      · exact Or.inr r
  refine (K T' h' (fun y => B y ∨ Bk Z EL T'.vm h' y) a ⟨S, T'.vm, k1, locs, X', e', hS', hk', hZ', hown', ⟨hC.1, fun y q => Or.inr q, ?_, ⟨Nat.le_trans i4.1 E.1, fun b c q => E.2 _ _ (i4.2 b c q)⟩, b0, i5⟩, hFr, hK.ext E, hM.trans hM' hK.1, fun q => nomatch q⟩ E hM').from stp
  rintro y (q | q)
  · exact Nat.lt_of_lt_of_le (i3 y q) E.1
  · obtain ⟨cell, hc⟩ := Bk.there q; exact (Array.getElem?_eq_some_iff.mp hc).1
/-- a String constant of EL, read -/
theorem g_ldcC (X : Wk nw l Z EL own bytes maxL ret mnm R h0 B0 ws Q x T h B k n) {idx : Nat} {text : String} (hnw : nw = false) (hd : Dc bytes pc (.ldc idx) 2 pc') (w : (Cond.stringLink own idx text).before a0 Z = true) (wS : ∀ a ∈ Bundle.stringAtoms, a.before a0 Z = true) (hmem : (own, idx) ∈ EL) (bs : List Int32) (hlt : bs.length < 2 ^ 31) (ht : (∀ c ∈ text.toList, c.toNat < 256) ∧ text.toList.map (fun c => Value.int (Jvm.Lit.byteI c.toNat.toUInt16)) = bs.map Value.int) (cap : Nat) (hn : 4 * text.toList.length ≤ cap) (hbig : cap ≤ 536870912) (k' n' : Nat) (ek : k + 2 = k') (en : n + (cap + 4) = n') (hc : k' ≤ R.cells) (hs : n' ≤ R.slots)
    (K : ∀ T' h' B' a t, Wk nw l Z EL own bytes maxL ret mnm R h0 B0 ws Q x T' h' B' k' n' → Ext h h' → k_more B B' h.size → Exa Z h' a "java/lang/String" → Fld Z h' a "java/lang/String" "coder" "B" (.int 0) → Fld Z h' a "java/lang/String" "value" "[B" (.ref t) → Ay Z h' t .byte (bs.map Value.int) → a < h'.size → t < h'.size → (∀ z, ¬ B' z → z ≠ a ∧ z ≠ t) → Go x (T'.setTop (mkF x.m pc' Ls (.ref a :: st)))) : Go x (T.setTop (mkF x.m pc Ls st)) := by
  subst hnw ek en
  obtain ⟨S, vm0, k0, locs, X, eT, hS, hk, hZ, hown, ⟨i1, i2, i3, i4, b0, i5⟩, hFr, hK, hM, hN⟩ := X
  obtain ⟨hd, rfl⟩ := hd
  have w' : (Cond.stringLink own idx text).before b0 Z = true := w
  have wS' : ∀ a ∈ Bundle.stringAtoms, a.before b0 Z = true := fun d hd => by
    have q := wS d hd
    simp only [Bundle.stringAtoms, List.mem_cons, List.not_mem_nil, or_false] at hd
    rcases hd with rfl | rfl | rfl | rfl | rfl | rfl | rfl <;> exact q
  obtain ⟨z1, z2⟩ := i32_nat hlt
  obtain ⟨a, T', h', k1, t, kk, X', e', E, hS', hk', hZ', hown', p1, p2, p3, p4, p5, p6, hC, -, p7, stp⟩ := ldcCH X S.1 hZ hown w' wS' eT hS hk i5 hmem i1 (vs := bs.map Value.int) (z := Int32.ofNat bs.length) ht z2 (by rw [z1]; simp) (g := mkF x.m pc Ls st) rfl (S.2.1 ▸ hd) hn hbig hc hs
  have hM' : k_more B (fun y => B y ∨ Bk Z EL T'.vm h' y) h.size := by
    refine ⟨?_, fun y q => Or.inl q⟩
    rintro y (q | q)
    · exact Or.inl q
    · rcases hC.2.2 y q with r | r
      · exact Or.inl (i2 y r)
      · exact Or.inr r
  refine (K T' h' (fun y => B y ∨ Bk Z EL T'.vm h' y) a t ⟨S, T'.vm, k1, locs, X', e', hS', hk', hZ', hown', ⟨hC.1, fun y q => Or.inr q, ?_, ⟨Nat.le_trans i4.1 E.1, fun b c q => E.2 _ _ (i4.2 b c q)⟩, b0, i5⟩, hFr, hK.ext E, hM.trans hM' hK.1, fun q => nomatch q⟩ E hM' p1 p2 p3 (Ay.of_arv p4 (by rw [z1]; simp)) p5 p6 (fun z hz => p7 z fun q => hz (Or.inr q))).from stp
  rintro y (q | q)
  · exact Nat.lt_of_lt_of_le (i3 y q) E.1
  · obtain ⟨cell, hc⟩ := Bk.there q; exact (Array.getElem?_eq_some_iff.mp hc).1
theorem g_ldc2 (X : Wk nw l Z EL own bytes maxL ret mnm R h0 B0 ws Q x T h B k n) {idx : Nat} {v : Int64} (hd : Dc bytes pc (.ldc2_w idx) 3 pc') (w : (Cond.constantLong own idx v).before a0 Z = true) (G : Go x (T.setTop (mkF x.m pc' Ls (.long v :: st)))) : Go x (T.setTop (mkF x.m pc Ls st)) := by
  obtain ⟨S, vm0, k0, locs, X, eT, hS, hk, hZ, hown, r⟩ := X
  obtain ⟨hd, rfl⟩ := hd
  exact G.from fun t q => X.ldc2J S.1 hown (mvT (s := x.s.setVm vm0) hZ w) (g := mkF x.m pc Ls st) rfl (S.2.1 ▸ hd) q
theorem g_ldcI (X : Wk nw l Z EL own bytes maxL ret mnm R h0 B0 ws Q x T h B k n) {idx : Nat} {v : Int32} (hd : Dc bytes pc (.ldc idx) 2 pc') (w : (Cond.constant own idx v).before a0 Z = true) (G : Go x (T.setTop (mkF x.m pc' Ls (.int v :: st)))) : Go x (T.setTop (mkF x.m pc Ls st)) := by
  obtain ⟨S, vm0, k0, locs, X, eT, hS, hk, hZ, hown, r⟩ := X
  obtain ⟨hd, rfl⟩ := hd
  exact G.from fun t q => X.ldcI S.1 hown (mvT (s := x.s.setVm vm0) hZ w) (g := mkF x.m pc Ls st) rfl (S.2.1 ▸ hd) q
theorem g_ldcWI (X : Wk nw l Z EL own bytes maxL ret mnm R h0 B0 ws Q x T h B k n) {idx : Nat} {v : Int32} (hd : Dc bytes pc (.ldc_w idx) 3 pc') (w : (Cond.constant own idx v).before a0 Z = true) (G : Go x (T.setTop (mkF x.m pc' Ls (.int v :: st)))) : Go x (T.setTop (mkF x.m pc Ls st)) := by
  obtain ⟨S, vm0, k0, locs, X, eT, hS, hk, hZ, hown, r⟩ := X
  obtain ⟨hd, rfl⟩ := hd
  exact G.from fun t q => X.ldcWI S.1 hown (mvT (s := x.s.setVm vm0) hZ w) (g := mkF x.m pc Ls st) rfl (S.2.1 ▸ hd) q
theorem g_castY (X : Wk nw l Z EL own bytes maxL ret mnm R h0 B0 ws Q x T h B k n) {K : String} {idx : Nat} (hd : Dc bytes pc (.checkcast idx) 3 pc') (w : (Cond.classLink own idx K).before a0 Z = true) {a : Addr} (F : Ins Z h a K true)
    (K' : ∀ T', Wk nw l Z EL own bytes maxL ret mnm R h0 B0 ws Q x T' h B k n → Go x (T'.setTop (mkF x.m pc' Ls (.ref a :: st)))) : Go x (T.setTop (mkF x.m pc Ls (.ref a :: st))) := by
  obtain ⟨S, vm0, k0, locs, X, eT, hS, hk, hZ, hown, r⟩ := X
  obtain ⟨hd, rfl⟩ := hd
  obtain ⟨T', X', e', stp⟩ := castY X S.1 hZ hown w eT F (g := mkF x.m pc Ls (.ref a :: st)) rfl rfl (S.2.1 ▸ hd)
  exact (K' T' ⟨S, vm0, k0, locs, X', e', hS, hk, hZ, hown, r⟩).from stp
theorem g_instY (X : Wk nw l Z EL own bytes maxL ret mnm R h0 B0 ws Q x T h B k n) {K : String} {idx : Nat} (hd : Dc bytes pc (.instanceof idx) 3 pc') (w : (Cond.classLink own idx K).before a0 Z = true) {a : Addr} (F : Ins Z h a K true)
    (K' : ∀ T', Wk nw l Z EL own bytes maxL ret mnm R h0 B0 ws Q x T' h B k n → Go x (T'.setTop (mkF x.m pc' Ls (.int 1 :: st)))) : Go x (T.setTop (mkF x.m pc Ls (.ref a :: st))) := by
  obtain ⟨S, vm0, k0, locs, X, eT, hS, hk, hZ, hown, r⟩ := X
  obtain ⟨hd, rfl⟩ := hd
  obtain ⟨T', X', e', stp⟩ := instY X S.1 hZ hown w eT F (g := mkF x.m pc Ls (.ref a :: st)) rfl rfl (S.2.1 ▸ hd)
  exact (K' T' ⟨S, vm0, k0, locs, X', e', hS, hk, hZ, hown, r⟩).from stp
theorem g_instNo (X : Wk nw l Z EL own bytes maxL ret mnm R h0 B0 ws Q x T h B k n) {K C : String} {idx : Nat} (hd : Dc bytes pc (.instanceof idx) 3 pc') (w : (Cond.classLink own idx K).before a0 Z = true) {a : Addr} (E : Exa Z h a C) (F : ∃ c t, Z.vm.findClass C = some c ∧ Z.vm.findClass K = some t ∧ Z.vm.assignable c t = false)
    (K' : ∀ T', Wk nw l Z EL own bytes maxL ret mnm R h0 B0 ws Q x T' h B k n → Go x (T'.setTop (mkF x.m pc' Ls (.int 0 :: st)))) : Go x (T.setTop (mkF x.m pc Ls (.ref a :: st))) := by
  obtain ⟨S, vm0, k0, locs, X, eT, hS, hk, hZ, hown, r⟩ := X
  obtain ⟨hd, rfl⟩ := hd
  obtain ⟨T', X', e', stp⟩ := instNo X S.1 hZ hown w eT E F (g := mkF x.m pc Ls (.ref a :: st)) rfl rfl (S.2.1 ▸ hd)
  exact (K' T' ⟨S, vm0, k0, locs, X', e', hS, hk, hZ, hown, r⟩).from stp
theorem g_instNull (X : Wk nw l Z EL own bytes maxL ret mnm R h0 B0 ws Q x T h B k n) {idx : Nat} (hd : Dc bytes pc (.instanceof idx) 3 pc') (G : Go x (T.setTop (mkF x.m pc' Ls (.int 0 :: st)))) : Go x (T.setTop (mkF x.m pc Ls (.null :: st))) := by
  obtain ⟨S, vm0, k0, locs, X, eT, hS, hk, hZ, hown, r⟩ := X
  obtain ⟨hd, rfl⟩ := hd
  exact G.from fun t q => X.instanceofNull S.1 (g := mkF x.m pc Ls (.null :: st)) rfl rfl (S.2.1 ▸ hd) t q
theorem k_slice (vs : List Value) (d : Value) (sp nn : Nat) (h : sp + nn ≤ vs.length) : ((List.range nn).map fun i => vs.getD (sp + i) d) = (vs.drop sp).take nn := by
  refine List.ext_getElem (by simp; omega) fun i h1 h2 => ?_
  simp at h1
  simp [List.getD, List.getElem?_eq_getElem (show sp + i < vs.length by omega)]
theorem g_arraycopy (X : Wk nw l Z EL own bytes maxL ret mnm R h0 B0 ws Q x T h B k n) {idx : Nat} {y : MethodName} {ty : FieldType} {a b : Addr} {vs vd : List Value} (hd : Dc bytes pc (.invokestatic idx) 3 pc') (hy : y = Jvm.Stand.acN) (w1 : (Cond.methodLink own idx y).before a0 Z = true) (w2 : (Cond.native y).before a0 Z = true) (w3 : (Cond.static y).before a0 Z = true) (w4 : (Cond.initialized "java/lang/System").before a0 Z = true)
    (A : Ay Z h a ty vs) (D : Ay Z h b ty vd) (hp : refKind ty = false) (sp dp nn : Nat) (h4 : sp + nn ≤ vs.length) (h5 : dp + nn ≤ vd.length) {j1 j2 j3 : Int32} (e1 : j1 = Int32.ofNat sp) (e2 : j2 = Int32.ofNat dp) (e3 : j3 = Int32.ofNat nn) (hsz : Ls.size = maxL) (hB : ¬ B b) (hz : Z.heap.size ≤ b) (hw : b ∈ ws ∨ h0.size ≤ b)
    (W : Nat) (hW : (st.map fun v => v.category).sum ≤ W) (hf : 1 ≤ R.frames) (hl : W + (nativeFrameWords "java/lang/System" "arraycopy" 5 + 11) ≤ R.locals)
    (K : ∀ T' h', Wk nw l Z EL own bytes maxL ret mnm R h0 B0 ws Q x T' h' B k n → Keep h h' [b] → Ay Z h' b ty (vd.take dp ++ (vs.drop sp).take nn ++ vd.drop (dp + nn)) → Go x (T'.setTop (mkF x.m pc' Ls st))) : Go x (T.setTop (mkF x.m pc Ls (.int j3 :: .int j2 :: .ref b :: .int j1 :: .ref a :: st))) := by
  subst hy e1 e2 e3
  obtain ⟨S, vm0, k0, locs, X, eT, hS, hk, hZ, hown, hI, hFr, hK, hM, hN⟩ := X
  obtain ⟨hd, rfl⟩ := hd
  have la := A.len
  have lb := D.len
  obtain ⟨ka, A⟩ := A.arv (.int 0)
  obtain ⟨kb, D⟩ := D.arv (.int 0)
  obtain ⟨s1, s2⟩ := i32_nat (show sp < 2 ^ 31 by omega)
  obtain ⟨d1, d2⟩ := i32_nat (show dp < 2 ^ 31 by omega)
  obtain ⟨n1, n2⟩ := i32_nat (show nn < 2 ^ 31 by omega)
  have va : (vs.length.toInt32).toNatClampNeg = vs.length := (i32_nat la).1
  have vb : (vd.length.toInt32).toNatClampNeg = vd.length := (i32_nat lb).1
  obtain ⟨T', h', L, X', e', hL, K', D', stp⟩ := cpA X S.1 hZ hown w1 w2 w3 w4 eT A D (us := (List.range nn).map fun i => vs.getD (sp + i) (.int 0)) (Or.inl ⟨rfl, hp⟩) s2 d2 n2 (by rw [s1, n1, va]; exact h4) (by rw [d1, n1, vb]; exact h5) (by rw [s1, n1]) (by rw [d1, n1]; exact h5) hFr hz (g := mkF x.m pc Ls (.int (Int32.ofNat nn) :: .int (Int32.ofNat dp) :: .ref b :: .int (Int32.ofNat sp) :: .ref a :: st)) rfl (by rw [S.2.2.1]; exact hsz) rfl (S.2.1 ▸ hd) hf (W := W) (by show 2 * 0 + _ ≤ _; omega) hl
  rw [d1, n1, k_slice vs _ sp nn h4] at D'
  refine (K T' h' ⟨S, vm0, k0, L, X', e', hS, Nat.le_trans hk K'.1, hZ, hown, hI.keep K' (fun y q => by cases List.mem_singleton.mp q; exact ⟨hB, hz⟩), hL, hK.trans K' (fun y q => by cases List.mem_singleton.mp q; exact hw), hM, hN⟩ K' (Ay.of_arv D' ?_)).from stp
  rw [vb]; simp; omega
end Calls
/-! own kit, part 5: numbers and Strings -/
theorem k_inc (i : Nat) : Int32.ofNat i + Int32.ofInt 1 = Int32.ofNat (i + 1) := (inc_ofNat i).symm
theorem k_ofNat {i : Nat} (h : i < 2 ^ 31) : (Int32.ofNat i).toInt = i := Int32.toInt_ofNat_small h
theorem k_lt {i j : Nat} (h : i < j) (hj : j < 2 ^ 31) : Int32.ofNat i < Int32.ofNat j := by
  rw [Int32.lt_iff_toInt_lt, k_ofNat (by omega), k_ofNat hj]; omega
theorem k_nlt {i j : Nat} (h : j ≤ i) (hi : i < 2 ^ 31) : ¬ Int32.ofNat i < Int32.ofNat j := by
  rw [Int32.lt_iff_toInt_lt, k_ofNat hi, k_ofNat (by omega)]; omega
theorem k_eqn {i j : Nat} (hi : i < 2 ^ 31) (hj : j < 2 ^ 31) : Int32.ofNat i = Int32.ofNat j ↔ i = j := by
  rw [← Int32.toInt_inj, k_ofNat hi, k_ofNat hj]; omega
theorem k_sub {i j : Nat} (h : j ≤ i) : Int32.ofNat i - Int32.ofNat j = Int32.ofNat (i - j) := by
  have e : i = (i - j) + j := by omega
  rw [e, Int32.ofNat_add]
  simp
/-- the low byte, signed -/
def lo8 (c : Int32) : Int32 := c.toInt8.toInt32
theorem nar_b8 (c : Int32) : RoadKit.nar .byte (lo8 c) = lo8 c := by simp [RoadKit.nar, lo8]
theorem fit_b8 (c : Int32) : fits .byte (.int (lo8 c)) = true := fits_nar_byte c
/-- a String: its coder, its bytes; all of it lies under N -/
def Str (Z : State) (h : Heap) (N : Nat) (a : Addr) (cd : Int32) (bs : List Int32) : Prop :=
  ∃ t : Addr, @LT.lt Nat _ a N ∧ @LT.lt Nat _ t N ∧ Exa Z h a "java/lang/String" ∧ Fld Z h a "java/lang/String" "coder" "B" (.int cd) ∧ Fld Z h a "java/lang/String" "value" "[B" (.ref t) ∧ Ay Z h t .byte (bs.map Value.int)
theorem Str.keep {Z : State} {h h' : Heap} {N : Nat} {a : Addr} {cd : Int32} {bs : List Int32} {ws : List Addr} (S : Str Z h N a cd bs) (K : Keep h h' ws) (q : ∀ z ∈ ws, N ≤ z) : Str Z h' N a cd bs := by
  obtain ⟨t, l1, l2, e, f, g, r⟩ := S
  have n1 : a ∉ ws := fun z => absurd l1 (Nat.not_lt.mpr (q a z))
  have n2 : t ∉ ws := fun z => absurd l2 (Nat.not_lt.mpr (q t z))
  exact ⟨t, l1, l2, e.keep K, f.keep K n1, g.keep K n1, r.keep K n2⟩
theorem Ay.ne {Z : State} {a0 : Array Value} {h : Heap} {a t : Addr} {C : String} {n : Nat} {ty : FieldType} {vs : List Value} (E : Exa Z h a C) (w : (Cond.instantiable C n).before a0 Z = true) (A : Ay Z h t ty vs) : a ≠ t := by
  obtain ⟨c, A, -⟩ := A
  exact ne_arr E w A
theorem Str.keepX {Z : State} {h h' : Heap} {N : Nat} {a z : Addr} {cd : Int32} {bs : List Int32} {C : String} {n : Nat} {a0 : Array Value} (S : Str Z h N a cd bs) (K : Keep h h' [z]) (E : Exa Z h z C) (w : (Cond.instantiable C n).before a0 Z = true) (hn : "java/lang/String" ≠ C) : Str Z h' N a cd bs := by
  obtain ⟨t, l1, l2, e, f, g, r⟩ := S
  have n1 : a ∉ [z] := ninS (ne_exa e E hn) nin0
  have n2 : t ∉ [z] := ninS (Ne.symm (Ay.ne E w r)) nin0
  exact ⟨t, l1, l2, e.keep K, f.keep K n1, g.keep K n1, r.keep K n2⟩
theorem Str.ext {Z : State} {h h' : Heap} {N : Nat} {a : Addr} {cd : Int32} {bs : List Int32} (S : Str Z h N a cd bs) (E : Ext h h') : Str Z h' N a cd bs := S.keep ((Keep.refl h []).ext E) (fun _ q => nomatch q)
theorem Str.mono {Z : State} {h : Heap} {N N' : Nat} {a : Addr} {cd : Int32} {bs : List Int32} (S : Str Z h N a cd bs) (q : N ≤ N') : Str Z h N' a cd bs := by
  obtain ⟨t, l1, l2, r⟩ := S; exact ⟨t, Nat.lt_of_lt_of_le l1 q, Nat.lt_of_lt_of_le l2 q, r⟩
theorem Str.exa {Z : State} {h : Heap} {N : Nat} {a : Addr} {cd : Int32} {bs : List Int32} (S : Str Z h N a cd bs) : Exa Z h a "java/lang/String" := by obtain ⟨t, l1, l2, e, r⟩ := S; exact e
theorem Str.lt {Z : State} {h : Heap} {N : Nat} {a : Addr} {cd : Int32} {bs : List Int32} (S : Str Z h N a cd bs) : @LT.lt Nat _ a N := by obtain ⟨t, l1, r⟩ := S; exact l1
theorem Str.len {Z : State} {h : Heap} {N : Nat} {a : Addr} {cd : Int32} {bs : List Int32} (S : Str Z h N a cd bs) : bs.length < 2 ^ 31 := by obtain ⟨t, l1, l2, e, f, g, A⟩ := S; simpa using A.len
theorem k_fill (cs : List Int32) (f : Int32 → Int32) (i : Nat) (hi : i < cs.length) :
    (((cs.take i).map (fun c => Value.int (f c)) ++ List.replicate (cs.length - i) (Value.int 0)).set i (.int (f cs[i]))) = (cs.take (i + 1)).map (fun c => Value.int (f c)) ++ List.replicate (cs.length - (i + 1)) (Value.int 0) := by
  have e1 : ((cs.take i).map (fun c => Value.int (f c))).length = i := by simp; omega
  have e2 : cs.length - i = (cs.length - (i + 1)) + 1 := by omega
  rw [e2, List.replicate_succ, List.take_succ_eq_append_getElem hi, List.map_append]
  generalize (cs.take i).map (fun c => Value.int (f c)) = P at e1
  rw [List.set_append_right _ _ (by omega)]
  simp [e1]
/-- a String that is read -/
def StrV (Z : State) (h : Heap) (a : Addr) (cd : Int32) (bs : List Int32) : Prop :=
  ∃ t, Exa Z h a "java/lang/String" ∧ Fld Z h a "java/lang/String" "coder" "B" (.int cd) ∧ Fld Z h a "java/lang/String" "value" "[B" (.ref t) ∧ Ay Z h t .byte (bs.map Value.int)
theorem StrV.op {Z : State} {h : Heap} {a : Addr} {cd : Int32} {bs : List Int32} (S : StrV Z h a cd bs) : ∃ t, Exa Z h a "java/lang/String" ∧ Fld Z h a "java/lang/String" "coder" "B" (.int cd) ∧ Fld Z h a "java/lang/String" "value" "[B" (.ref t) ∧ Ay Z h t .byte (bs.map Value.int) := S
theorem Str.v {Z : State} {h : Heap} {N : Nat} {a : Addr} {cd : Int32} {bs : List Int32} (S : Str Z h N a cd bs) : StrV Z h a cd bs := by obtain ⟨t, -, -, r⟩ := S; exact ⟨t, r⟩
theorem Fld.uniq {Z : State} {h : Heap} {a : Addr} {C n d : String} {v w : Value} (F : Fld Z h a C n d v) (G : Fld Z h a C n d w) : v = w := by
  rcases Classical.em (v = w) with q | q
  · exact q
  · exact absurd rfl (F.ne G q)
theorem Ay.uniq {Z : State} {h : Heap} {a : Addr} {ty ty' : FieldType} {vs us : List Value} (F : Ay Z h a ty vs) (G : Ay Z h a ty' us) : vs = us := by
  obtain ⟨c, A, e, -⟩ := F
  obtain ⟨c', A', e', -⟩ := G
  cases A.1.symm.trans A'.1
  exact e.symm.trans e'
theorem StrV.uniq {Z : State} {h : Heap} {a : Addr} {cd cd' : Int32} {bs bs' : List Int32} (S : StrV Z h a cd bs) (S' : StrV Z h a cd' bs') : bs = bs' := by
  obtain ⟨t, -, -, f, A⟩ := S
  obtain ⟨t', -, -, f', A'⟩ := S'
  cases Value.ref.inj (Fld.uniq f f')
  have := A.uniq A'
  exact (List.map_inj_right (fun a b q => Value.int.inj q)).mp this
theorem StrV.len {Z : State} {h : Heap} {a : Addr} {cd : Int32} {bs : List Int32} (S : StrV Z h a cd bs) : bs.length < 2 ^ 31 := by obtain ⟨t, -, -, -, A⟩ := S; simpa using A.len
theorem k_shr0 (x : Int32) : x >>> ((0 : Int32) &&& 31) = x := by
  have : ((0 : Int32) &&& 31) = 0 := by decide
  rw [this]
  apply Int32.toBitVec_inj.mp
  simp
/-- an object of the class C (below Object alone) is none of K -/
theorem k_not {Z : State} {a0 : Array Value} {C K O : String} {n : Nat} (w : (Cond.superclass C O).before a0 Z = true) (wo : (Cond.noSuperclass O).before a0 Z = true) (wk : (Cond.instantiable K n).before a0 Z = true) (h1 : C ≠ K) (h2 : O ≠ K) : ∃ c t, Z.vm.findClass C = some c ∧ Z.vm.findClass K = some t ∧ Z.vm.assignable c t = false := by
  obtain ⟨t, k', g0, g2, g5, hi⟩ : ∃ t k', Z.vm.findClass K = some t ∧ Z.vm.classes[t]? = some k' ∧ k'.kind = .ordinary ∧ k'.isInterface = false := by
    obtain ⟨t, k', g1, g2, g3, g4, -⟩ := Cond.instantiable_spec wk
    exact ⟨t, k', g1, g2, g3, by simpa using (Bool.or_eq_false_iff.mp g4).1⟩
  obtain ⟨co, ko, o1, o2, o3, -, -⟩ := Cond.noSuperclass_spec wo
  obtain ⟨c, h0⟩ := found_sup w
  obtain ⟨p, k, kp, q1, q2, q3, q4, q5, -, q7⟩ := Cond.superclass_spec h0 w
  cases o1.symm.trans q1
  have ne := ids_ne h0 g0 h1
  have neo := ids_ne o1 g0 h2
  have no : ∀ fuel, Z.vm.isSubclassAux fuel co t = false := fun fuel => by
    cases fuel with
    | zero => rfl
    | succ f => simp [Vm.isSubclassAux, neo, o2, o3]
  have nc : ∀ fuel, Z.vm.isSubclassAux fuel c t = false := fun fuel => by
    cases fuel with
    | zero => rfl
    | succ f => simp [Vm.isSubclassAux, ne, q2, q4, no]
  refine ⟨c, t, h0, g0, ?_⟩
  show Z.vm.assignableAux (255 + 1) c t = false
  simp [Vm.assignableAux, ne, q2, g2, q5, g5, hi, Vm.isSubclass, nc]
theorem k_nn {i : Nat} (h : i < 2 ^ 31) : ¬ Int32.ofNat i < 0 := (i32_nat h).2
theorem k_ne0 {i : Nat} (h : 0 < i) (hi : i < 2 ^ 31) : ¬ Int32.ofNat i = 0 := fun q => by
  have := (k_eqn hi (by decide)).mp (show Int32.ofNat i = Int32.ofNat 0 from q)
  omega
theorem k_add (i j : Nat) : Int32.ofNat i + Int32.ofNat j = Int32.ofNat (i + j) := (Int32.ofNat_add i j).symm
theorem k_min {i j : Nat} (h : j ≤ i) (hi : i < 2 ^ 31) : (if Int32.ofNat j < Int32.ofNat i then Int32.ofNat j else Int32.ofNat i) = Int32.ofNat j := by
  rcases Nat.lt_or_ge j i with q | q
  · rw [if_pos (k_lt q hi)]
  · have : i = j := by omega
    subst this
    split <;> rfl
abbrev HW (Z : State) (a0 : Array Value) : Prop := ∀ d ∈ tables_1, d.before a0 Z = true
theorem w0 {Z : State} {a0 : Array Value} (hw : HW Z a0) : ((Jvm.Cond.constant "com/example/verichor/verichor/explore/BuilderContainsPinLaw" (7 : Nat) (2147483647 : Int32))).before a0 Z = true := hw _ (List.mem_of_getElem? (i := 0) rfl)
theorem w1 {Z : State} {a0 : Array Value} (hw : HW Z a0) : ((Jvm.Cond.classLink "com/example/verichor/verichor/explore/BuilderContainsPinLaw" (8 : Nat) "com/example/verichor/verichor/explore/StateSet$Builder")).before a0 Z = true := hw _ (List.mem_of_getElem? (i := 1) rfl)
theorem w2 {Z : State} {a0 : Array Value} (hw : HW Z a0) : ((Jvm.Cond.instantiable "com/example/verichor/verichor/explore/StateSet$Builder" (2 : Nat))).before a0 Z = true := hw _ (List.mem_of_getElem? (i := 2) rfl)
theorem w3 {Z : State} {a0 : Array Value} (hw : HW Z a0) : ((Jvm.Cond.initialized "com/example/verichor/verichor/explore/StateSet$Builder")).before a0 Z = true := hw _ (List.mem_of_getElem? (i := 3) rfl)
theorem w4 {Z : State} {a0 : Array Value} (hw : HW Z a0) : ((Jvm.Cond.methodLink "com/example/verichor/verichor/explore/BuilderContainsPinLaw" (10 : Nat) ({ cls := "com/example/verichor/verichor/explore/StateSet$Builder", name := "<init>", desc := "()V" } : Jvm.MethodName))).before a0 Z = true := hw _ (List.mem_of_getElem? (i := 4) rfl)
theorem w5 {Z : State} {a0 : Array Value} (hw : HW Z a0) : ((Jvm.Cond.instanceMethod ({ cls := "com/example/verichor/verichor/explore/StateSet$Builder", name := "<init>", desc := "()V" } : Jvm.MethodName))).before a0 Z = true := hw _ (List.mem_of_getElem? (i := 5) rfl)
theorem w6 {Z : State} {a0 : Array Value} (hw : HW Z a0) : ((Jvm.Cond.code ({ cls := "com/example/verichor/verichor/explore/StateSet$Builder", name := "<init>", desc := "()V" } : Jvm.MethodName) prog_218_method_1_code (1 : Nat) (Option.none : Option Jvm.ClassFile.FieldType))).before a0 Z = true := hw _ (List.mem_of_getElem? (i := 6) rfl)
theorem w7 {Z : State} {a0 : Array Value} (hw : HW Z a0) : ((Jvm.Cond.methodLink "com/example/verichor/verichor/explore/StateSet$Builder" (1 : Nat) ({ cls := "java/lang/Object", name := "<init>", desc := "()V" } : Jvm.MethodName))).before a0 Z = true := hw _ (List.mem_of_getElem? (i := 7) rfl)
theorem w8 {Z : State} {a0 : Array Value} (hw : HW Z a0) : ((Jvm.Cond.instanceMethod ({ cls := "java/lang/Object", name := "<init>", desc := "()V" } : Jvm.MethodName))).before a0 Z = true := hw _ (List.mem_of_getElem? (i := 8) rfl)
theorem w9 {Z : State} {a0 : Array Value} (hw : HW Z a0) : ((Jvm.Cond.code ({ cls := "java/lang/Object", name := "<init>", desc := "()V" } : Jvm.MethodName) object_method_1_code (1 : Nat) (Option.none : Option Jvm.ClassFile.FieldType))).before a0 Z = true := hw _ (List.mem_of_getElem? (i := 9) rfl)
theorem w10 {Z : State} {a0 : Array Value} (hw : HW Z a0) : ((Jvm.Cond.arrayClass Jvm.ClassFile.FieldType.long)).before a0 Z = true := hw _ (List.mem_of_getElem? (i := 10) rfl)
theorem w11 {Z : State} {a0 : Array Value} (hw : HW Z a0) : ((Jvm.Cond.fieldLink "com/example/verichor/verichor/explore/StateSet$Builder" (7 : Nat) "com/example/verichor/verichor/explore/StateSet$Builder" "added" "[J")).before a0 Z = true := hw _ (List.mem_of_getElem? (i := 11) rfl)
theorem w12 {Z : State} {a0 : Array Value} (hw : HW Z a0) : ((Jvm.Cond.lays "com/example/verichor/verichor/explore/StateSet$Builder" "com/example/verichor/verichor/explore/StateSet$Builder" "added" "[J")).before a0 Z = true := hw _ (List.mem_of_getElem? (i := 12) rfl)
theorem w13 {Z : State} {a0 : Array Value} (hw : HW Z a0) : ((Jvm.Cond.classLink "com/example/verichor/verichor/explore/StateSet$Builder" (13 : Nat) "com/example/verichor/verichor/composition/Ints")).before a0 Z = true := hw _ (List.mem_of_getElem? (i := 13) rfl)
theorem w14 {Z : State} {a0 : Array Value} (hw : HW Z a0) : ((Jvm.Cond.instantiable "com/example/verichor/verichor/composition/Ints" (2 : Nat))).before a0 Z = true := hw _ (List.mem_of_getElem? (i := 14) rfl)
theorem w15 {Z : State} {a0 : Array Value} (hw : HW Z a0) : ((Jvm.Cond.initialized "com/example/verichor/verichor/composition/Ints")).before a0 Z = true := hw _ (List.mem_of_getElem? (i := 15) rfl)
theorem w16 {Z : State} {a0 : Array Value} (hw : HW Z a0) : ((Jvm.Cond.methodLink "com/example/verichor/verichor/explore/StateSet$Builder" (15 : Nat) ({ cls := "com/example/verichor/verichor/composition/Ints", name := "<init>", desc := "()V" } : Jvm.MethodName))).before a0 Z = true := hw _ (List.mem_of_getElem? (i := 16) rfl)
theorem w17 {Z : State} {a0 : Array Value} (hw : HW Z a0) : ((Jvm.Cond.instanceMethod ({ cls := "com/example/verichor/verichor/composition/Ints", name := "<init>", desc := "()V" } : Jvm.MethodName))).before a0 Z = true := hw _ (List.mem_of_getElem? (i := 17) rfl)
theorem w18 {Z : State} {a0 : Array Value} (hw : HW Z a0) : ((Jvm.Cond.code ({ cls := "com/example/verichor/verichor/composition/Ints", name := "<init>", desc := "()V" } : Jvm.MethodName) prog_72_method_1_code (1 : Nat) (Option.none : Option Jvm.ClassFile.FieldType))).before a0 Z = true := hw _ (List.mem_of_getElem? (i := 18) rfl)
theorem w19 {Z : State} {a0 : Array Value} (hw : HW Z a0) : ((Jvm.Cond.methodLink "com/example/verichor/verichor/composition/Ints" (1 : Nat) ({ cls := "java/lang/Object", name := "<init>", desc := "()V" } : Jvm.MethodName))).before a0 Z = true := hw _ (List.mem_of_getElem? (i := 19) rfl)
theorem w20 {Z : State} {a0 : Array Value} (hw : HW Z a0) : ((Jvm.Cond.arrayClass Jvm.ClassFile.FieldType.int)).before a0 Z = true := hw _ (List.mem_of_getElem? (i := 20) rfl)
theorem w21 {Z : State} {a0 : Array Value} (hw : HW Z a0) : ((Jvm.Cond.fieldLink "com/example/verichor/verichor/composition/Ints" (7 : Nat) "com/example/verichor/verichor/composition/Ints" "values" "[I")).before a0 Z = true := hw _ (List.mem_of_getElem? (i := 21) rfl)
theorem w22 {Z : State} {a0 : Array Value} (hw : HW Z a0) : ((Jvm.Cond.lays "com/example/verichor/verichor/composition/Ints" "com/example/verichor/verichor/composition/Ints" "values" "[I")).before a0 Z = true := hw _ (List.mem_of_getElem? (i := 22) rfl)
theorem w23 {Z : State} {a0 : Array Value} (hw : HW Z a0) : ((Jvm.Cond.fieldLink "com/example/verichor/verichor/explore/StateSet$Builder" (16 : Nat) "com/example/verichor/verichor/explore/StateSet$Builder" "members" "Lcom/example/verichor/verichor/composition/Ints;")).before a0 Z = true := hw _ (List.mem_of_getElem? (i := 23) rfl)
theorem w24 {Z : State} {a0 : Array Value} (hw : HW Z a0) : ((Jvm.Cond.laysFinal "com/example/verichor/verichor/explore/StateSet$Builder" "com/example/verichor/verichor/explore/StateSet$Builder" "members" "Lcom/example/verichor/verichor/composition/Ints;")).before a0 Z = true := hw _ (List.mem_of_getElem? (i := 24) rfl)
theorem w25 {Z : State} {a0 : Array Value} (hw : HW Z a0) : ((Jvm.Cond.methodLink "com/example/verichor/verichor/explore/BuilderContainsPinLaw" (11 : Nat) ({ cls := "com/example/verichor/verichor/explore/StateSet$Builder", name := "add", desc := "(I)Z" } : Jvm.MethodName))).before a0 Z = true := hw _ (List.mem_of_getElem? (i := 25) rfl)
theorem w26 {Z : State} {a0 : Array Value} (hw : HW Z a0) : ((Jvm.Cond.declares ({ cls := "com/example/verichor/verichor/explore/StateSet$Builder", name := "add", desc := "(I)Z" } : Jvm.MethodName))).before a0 Z = true := hw _ (List.mem_of_getElem? (i := 26) rfl)
theorem w27 {Z : State} {a0 : Array Value} (hw : HW Z a0) : ((Jvm.Cond.instanceMethod ({ cls := "com/example/verichor/verichor/explore/StateSet$Builder", name := "add", desc := "(I)Z" } : Jvm.MethodName))).before a0 Z = true := hw _ (List.mem_of_getElem? (i := 27) rfl)
theorem w28 {Z : State} {a0 : Array Value} (hw : HW Z a0) : ((Jvm.Cond.selects "com/example/verichor/verichor/explore/StateSet$Builder" ({ cls := "com/example/verichor/verichor/explore/StateSet$Builder", name := "add", desc := "(I)Z" } : Jvm.MethodName) ({ cls := "com/example/verichor/verichor/explore/StateSet$Builder", name := "add", desc := "(I)Z" } : Jvm.MethodName))).before a0 Z = true := hw _ (List.mem_of_getElem? (i := 28) rfl)
theorem w29 {Z : State} {a0 : Array Value} (hw : HW Z a0) : ((Jvm.Cond.code ({ cls := "com/example/verichor/verichor/explore/StateSet$Builder", name := "add", desc := "(I)Z" } : Jvm.MethodName) prog_218_method_3_code (3 : Nat) (Option.some Jvm.ClassFile.FieldType.boolean))).before a0 Z = true := hw _ (List.mem_of_getElem? (i := 29) rfl)
theorem w30 {Z : State} {a0 : Array Value} (hw : HW Z a0) : ((Jvm.Cond.methodLink "com/example/verichor/verichor/explore/StateSet$Builder" (22 : Nat) ({ cls := "com/example/verichor/verichor/explore/StateSet$Builder", name := "contains", desc := "(I)Z" } : Jvm.MethodName))).before a0 Z = true := hw _ (List.mem_of_getElem? (i := 30) rfl)
theorem w31 {Z : State} {a0 : Array Value} (hw : HW Z a0) : ((Jvm.Cond.declares ({ cls := "com/example/verichor/verichor/explore/StateSet$Builder", name := "contains", desc := "(I)Z" } : Jvm.MethodName))).before a0 Z = true := hw _ (List.mem_of_getElem? (i := 31) rfl)
theorem w32 {Z : State} {a0 : Array Value} (hw : HW Z a0) : ((Jvm.Cond.instanceMethod ({ cls := "com/example/verichor/verichor/explore/StateSet$Builder", name := "contains", desc := "(I)Z" } : Jvm.MethodName))).before a0 Z = true := hw _ (List.mem_of_getElem? (i := 32) rfl)
theorem w33 {Z : State} {a0 : Array Value} (hw : HW Z a0) : ((Jvm.Cond.selects "com/example/verichor/verichor/explore/StateSet$Builder" ({ cls := "com/example/verichor/verichor/explore/StateSet$Builder", name := "contains", desc := "(I)Z" } : Jvm.MethodName) ({ cls := "com/example/verichor/verichor/explore/StateSet$Builder", name := "contains", desc := "(I)Z" } : Jvm.MethodName))).before a0 Z = true := hw _ (List.mem_of_getElem? (i := 33) rfl)
theorem w34 {Z : State} {a0 : Array Value} (hw : HW Z a0) : ((Jvm.Cond.code ({ cls := "com/example/verichor/verichor/explore/StateSet$Builder", name := "contains", desc := "(I)Z" } : Jvm.MethodName) prog_218_method_2_code (3 : Nat) (Option.some Jvm.ClassFile.FieldType.boolean))).before a0 Z = true := hw _ (List.mem_of_getElem? (i := 34) rfl)
theorem w35 {Z : State} {a0 : Array Value} (hw : HW Z a0) : ((Jvm.Cond.methodLink "com/example/verichor/verichor/explore/StateSet$Builder" (38 : Nat) ({ cls := "com/example/verichor/verichor/composition/Ints", name := "add", desc := "(I)V" } : Jvm.MethodName))).before a0 Z = true := hw _ (List.mem_of_getElem? (i := 35) rfl)
theorem w36 {Z : State} {a0 : Array Value} (hw : HW Z a0) : ((Jvm.Cond.declares ({ cls := "com/example/verichor/verichor/composition/Ints", name := "add", desc := "(I)V" } : Jvm.MethodName))).before a0 Z = true := hw _ (List.mem_of_getElem? (i := 36) rfl)
theorem w37 {Z : State} {a0 : Array Value} (hw : HW Z a0) : ((Jvm.Cond.instanceMethod ({ cls := "com/example/verichor/verichor/composition/Ints", name := "add", desc := "(I)V" } : Jvm.MethodName))).before a0 Z = true := hw _ (List.mem_of_getElem? (i := 37) rfl)
theorem w38 {Z : State} {a0 : Array Value} (hw : HW Z a0) : ((Jvm.Cond.selects "com/example/verichor/verichor/composition/Ints" ({ cls := "com/example/verichor/verichor/composition/Ints", name := "add", desc := "(I)V" } : Jvm.MethodName) ({ cls := "com/example/verichor/verichor/composition/Ints", name := "add", desc := "(I)V" } : Jvm.MethodName))).before a0 Z = true := hw _ (List.mem_of_getElem? (i := 38) rfl)
theorem w39 {Z : State} {a0 : Array Value} (hw : HW Z a0) : ((Jvm.Cond.code ({ cls := "com/example/verichor/verichor/composition/Ints", name := "add", desc := "(I)V" } : Jvm.MethodName) prog_72_method_2_code (2 : Nat) (Option.none : Option Jvm.ClassFile.FieldType))).before a0 Z = true := hw _ (List.mem_of_getElem? (i := 39) rfl)
theorem w40 {Z : State} {a0 : Array Value} (hw : HW Z a0) : ((Jvm.Cond.fieldLink "com/example/verichor/verichor/composition/Ints" (13 : Nat) "com/example/verichor/verichor/composition/Ints" "size" "I")).before a0 Z = true := hw _ (List.mem_of_getElem? (i := 40) rfl)
theorem w41 {Z : State} {a0 : Array Value} (hw : HW Z a0) : ((Jvm.Cond.lays "com/example/verichor/verichor/composition/Ints" "com/example/verichor/verichor/composition/Ints" "size" "I")).before a0 Z = true := hw _ (List.mem_of_getElem? (i := 41) rfl)
theorem w42 {Z : State} {a0 : Array Value} (hw : HW Z a0) : ((Jvm.Cond.methodLink "com/example/verichor/verichor/explore/BuilderContainsPinLaw" (19 : Nat) ({ cls := "com/example/verichor/verichor/explore/StateSet$Builder", name := "contains", desc := "(I)Z" } : Jvm.MethodName))).before a0 Z = true := hw _ (List.mem_of_getElem? (i := 42) rfl)
theorem w43 {Z : State} {a0 : Array Value} (hw : HW Z a0) : ((Jvm.Cond.methodLink "com/example/verichor/verichor/explore/BuilderContainsPinLaw" (15 : Nat) ({ cls := "com/example/verichor/verichor/explore/StateSet$Builder", name := "build", desc := "()Lcom/example/verichor/verichor/explore/StateSet;" } : Jvm.MethodName))).before a0 Z = true := hw _ (List.mem_of_getElem? (i := 43) rfl)
theorem w44 {Z : State} {a0 : Array Value} (hw : HW Z a0) : ((Jvm.Cond.declares ({ cls := "com/example/verichor/verichor/explore/StateSet$Builder", name := "build", desc := "()Lcom/example/verichor/verichor/explore/StateSet;" } : Jvm.MethodName))).before a0 Z = true := hw _ (List.mem_of_getElem? (i := 44) rfl)
theorem w45 {Z : State} {a0 : Array Value} (hw : HW Z a0) : ((Jvm.Cond.instanceMethod ({ cls := "com/example/verichor/verichor/explore/StateSet$Builder", name := "build", desc := "()Lcom/example/verichor/verichor/explore/StateSet;" } : Jvm.MethodName))).before a0 Z = true := hw _ (List.mem_of_getElem? (i := 45) rfl)
theorem w46 {Z : State} {a0 : Array Value} (hw : HW Z a0) : ((Jvm.Cond.selects "com/example/verichor/verichor/explore/StateSet$Builder" ({ cls := "com/example/verichor/verichor/explore/StateSet$Builder", name := "build", desc := "()Lcom/example/verichor/verichor/explore/StateSet;" } : Jvm.MethodName) ({ cls := "com/example/verichor/verichor/explore/StateSet$Builder", name := "build", desc := "()Lcom/example/verichor/verichor/explore/StateSet;" } : Jvm.MethodName))).before a0 Z = true := hw _ (List.mem_of_getElem? (i := 46) rfl)
theorem w47 {Z : State} {a0 : Array Value} (hw : HW Z a0) : ((Jvm.Cond.code ({ cls := "com/example/verichor/verichor/explore/StateSet$Builder", name := "build", desc := "()Lcom/example/verichor/verichor/explore/StateSet;" } : Jvm.MethodName) prog_218_method_4_code (6 : Nat) (Option.some (Jvm.ClassFile.FieldType.object "com/example/verichor/verichor/explore/StateSet")))).before a0 Z = true := hw _ (List.mem_of_getElem? (i := 47) rfl)
theorem w48 {Z : State} {a0 : Array Value} (hw : HW Z a0) : ((Jvm.Cond.methodLink "com/example/verichor/verichor/explore/StateSet$Builder" (42 : Nat) ({ cls := "com/example/verichor/verichor/composition/Ints", name := "sort", desc := "()V" } : Jvm.MethodName))).before a0 Z = true := hw _ (List.mem_of_getElem? (i := 48) rfl)
theorem w49 {Z : State} {a0 : Array Value} (hw : HW Z a0) : ((Jvm.Cond.declares ({ cls := "com/example/verichor/verichor/composition/Ints", name := "sort", desc := "()V" } : Jvm.MethodName))).before a0 Z = true := hw _ (List.mem_of_getElem? (i := 49) rfl)
theorem w50 {Z : State} {a0 : Array Value} (hw : HW Z a0) : ((Jvm.Cond.instanceMethod ({ cls := "com/example/verichor/verichor/composition/Ints", name := "sort", desc := "()V" } : Jvm.MethodName))).before a0 Z = true := hw _ (List.mem_of_getElem? (i := 50) rfl)
theorem w51 {Z : State} {a0 : Array Value} (hw : HW Z a0) : ((Jvm.Cond.selects "com/example/verichor/verichor/composition/Ints" ({ cls := "com/example/verichor/verichor/composition/Ints", name := "sort", desc := "()V" } : Jvm.MethodName) ({ cls := "com/example/verichor/verichor/composition/Ints", name := "sort", desc := "()V" } : Jvm.MethodName))).before a0 Z = true := hw _ (List.mem_of_getElem? (i := 51) rfl)
theorem w52 {Z : State} {a0 : Array Value} (hw : HW Z a0) : ((Jvm.Cond.code ({ cls := "com/example/verichor/verichor/composition/Ints", name := "sort", desc := "()V" } : Jvm.MethodName) prog_72_method_7_code (1 : Nat) (Option.none : Option Jvm.ClassFile.FieldType))).before a0 Z = true := hw _ (List.mem_of_getElem? (i := 52) rfl)
theorem w53 {Z : State} {a0 : Array Value} (hw : HW Z a0) : ((Jvm.Cond.methodLink "com/example/verichor/verichor/composition/Ints" (23 : Nat) ({ cls := "java/util/Arrays", name := "sort", desc := "([III)V" } : Jvm.MethodName))).before a0 Z = true := hw _ (List.mem_of_getElem? (i := 53) rfl)
theorem w54 {Z : State} {a0 : Array Value} (hw : HW Z a0) : ((Jvm.Cond.static ({ cls := "java/util/Arrays", name := "sort", desc := "([III)V" } : Jvm.MethodName))).before a0 Z = true := hw _ (List.mem_of_getElem? (i := 54) rfl)
theorem w55 {Z : State} {a0 : Array Value} (hw : HW Z a0) : ((Jvm.Cond.initialized "java/util/Arrays")).before a0 Z = true := hw _ (List.mem_of_getElem? (i := 55) rfl)
theorem w56 {Z : State} {a0 : Array Value} (hw : HW Z a0) : ((Jvm.Cond.code ({ cls := "java/util/Arrays", name := "sort", desc := "([III)V" } : Jvm.MethodName) jdk_65_method_3_code (3 : Nat) (Option.none : Option Jvm.ClassFile.FieldType))).before a0 Z = true := hw _ (List.mem_of_getElem? (i := 56) rfl)
theorem w57 {Z : State} {a0 : Array Value} (hw : HW Z a0) : ((Jvm.Cond.methodLink "java/util/Arrays" (13 : Nat) ({ cls := "java/util/Arrays", name := "rangeCheck", desc := "(III)V" } : Jvm.MethodName))).before a0 Z = true := hw _ (List.mem_of_getElem? (i := 57) rfl)
theorem w58 {Z : State} {a0 : Array Value} (hw : HW Z a0) : ((Jvm.Cond.static ({ cls := "java/util/Arrays", name := "rangeCheck", desc := "(III)V" } : Jvm.MethodName))).before a0 Z = true := hw _ (List.mem_of_getElem? (i := 58) rfl)
theorem w59 {Z : State} {a0 : Array Value} (hw : HW Z a0) : ((Jvm.Cond.code ({ cls := "java/util/Arrays", name := "rangeCheck", desc := "(III)V" } : Jvm.MethodName) jdk_65_method_30_code (3 : Nat) (Option.none : Option Jvm.ClassFile.FieldType))).before a0 Z = true := hw _ (List.mem_of_getElem? (i := 59) rfl)
theorem w60 {Z : State} {a0 : Array Value} (hw : HW Z a0) : ((Jvm.Cond.methodLink "java/util/Arrays" (7 : Nat) ({ cls := "java/util/DualPivotQuicksort", name := "sort", desc := "([IIII)V" } : Jvm.MethodName))).before a0 Z = true := hw _ (List.mem_of_getElem? (i := 60) rfl)
theorem w61 {Z : State} {a0 : Array Value} (hw : HW Z a0) : ((Jvm.Cond.static ({ cls := "java/util/DualPivotQuicksort", name := "sort", desc := "([IIII)V" } : Jvm.MethodName))).before a0 Z = true := hw _ (List.mem_of_getElem? (i := 61) rfl)
theorem w62 {Z : State} {a0 : Array Value} (hw : HW Z a0) : ((Jvm.Cond.initialized "java/util/DualPivotQuicksort")).before a0 Z = true := hw _ (List.mem_of_getElem? (i := 62) rfl)
theorem w63 {Z : State} {a0 : Array Value} (hw : HW Z a0) : ((Jvm.Cond.code ({ cls := "java/util/DualPivotQuicksort", name := "sort", desc := "([IIII)V" } : Jvm.MethodName) jdk_2529_method_3_code (7 : Nat) (Option.none : Option Jvm.ClassFile.FieldType))).before a0 Z = true := hw _ (List.mem_of_getElem? (i := 63) rfl)
theorem w64 {Z : State} {a0 : Array Value} (hw : HW Z a0) : ((Jvm.Cond.methodLink "java/util/DualPivotQuicksort" (26 : Nat) ({ cls := "java/util/DualPivotQuicksort", name := "sort", desc := "(Ljava/util/DualPivotQuicksort$Sorter;[IIII)V" } : Jvm.MethodName))).before a0 Z = true := hw _ (List.mem_of_getElem? (i := 64) rfl)
theorem w65 {Z : State} {a0 : Array Value} (hw : HW Z a0) : ((Jvm.Cond.static ({ cls := "java/util/DualPivotQuicksort", name := "sort", desc := "(Ljava/util/DualPivotQuicksort$Sorter;[IIII)V" } : Jvm.MethodName))).before a0 Z = true := hw _ (List.mem_of_getElem? (i := 65) rfl)
theorem w66 {Z : State} {a0 : Array Value} (hw : HW Z a0) : ((Jvm.Cond.code ({ cls := "java/util/DualPivotQuicksort", name := "sort", desc := "(Ljava/util/DualPivotQuicksort$Sorter;[IIII)V" } : Jvm.MethodName) jdk_2529_method_4_code (21 : Nat) (Option.none : Option Jvm.ClassFile.FieldType))).before a0 Z = true := hw _ (List.mem_of_getElem? (i := 66) rfl)
theorem w67 {Z : State} {a0 : Array Value} (hw : HW Z a0) : ((Jvm.Cond.methodLink "java/util/DualPivotQuicksort" (34 : Nat) ({ cls := "java/util/DualPivotQuicksort", name := "insertionSort", desc := "([III)V" } : Jvm.MethodName))).before a0 Z = true := hw _ (List.mem_of_getElem? (i := 67) rfl)
theorem w68 {Z : State} {a0 : Array Value} (hw : HW Z a0) : ((Jvm.Cond.static ({ cls := "java/util/DualPivotQuicksort", name := "insertionSort", desc := "([III)V" } : Jvm.MethodName))).before a0 Z = true := hw _ (List.mem_of_getElem? (i := 68) rfl)
theorem w69 {Z : State} {a0 : Array Value} (hw : HW Z a0) : ((Jvm.Cond.code ({ cls := "java/util/DualPivotQuicksort", name := "insertionSort", desc := "([III)V" } : Jvm.MethodName) jdk_2529_method_6_code (6 : Nat) (Option.none : Option Jvm.ClassFile.FieldType))).before a0 Z = true := hw _ (List.mem_of_getElem? (i := 69) rfl)
theorem w70 {Z : State} {a0 : Array Value} (hw : HW Z a0) : ((Jvm.Cond.methodLink "com/example/verichor/verichor/explore/StateSet$Builder" (45 : Nat) ({ cls := "com/example/verichor/verichor/composition/Ints", name := "toArray", desc := "()[I" } : Jvm.MethodName))).before a0 Z = true := hw _ (List.mem_of_getElem? (i := 70) rfl)
theorem w71 {Z : State} {a0 : Array Value} (hw : HW Z a0) : ((Jvm.Cond.declares ({ cls := "com/example/verichor/verichor/composition/Ints", name := "toArray", desc := "()[I" } : Jvm.MethodName))).before a0 Z = true := hw _ (List.mem_of_getElem? (i := 71) rfl)
theorem w72 {Z : State} {a0 : Array Value} (hw : HW Z a0) : ((Jvm.Cond.instanceMethod ({ cls := "com/example/verichor/verichor/composition/Ints", name := "toArray", desc := "()[I" } : Jvm.MethodName))).before a0 Z = true := hw _ (List.mem_of_getElem? (i := 72) rfl)
theorem w73 {Z : State} {a0 : Array Value} (hw : HW Z a0) : ((Jvm.Cond.selects "com/example/verichor/verichor/composition/Ints" ({ cls := "com/example/verichor/verichor/composition/Ints", name := "toArray", desc := "()[I" } : Jvm.MethodName) ({ cls := "com/example/verichor/verichor/composition/Ints", name := "toArray", desc := "()[I" } : Jvm.MethodName))).before a0 Z = true := hw _ (List.mem_of_getElem? (i := 73) rfl)
theorem w74 {Z : State} {a0 : Array Value} (hw : HW Z a0) : ((Jvm.Cond.code ({ cls := "com/example/verichor/verichor/composition/Ints", name := "toArray", desc := "()[I" } : Jvm.MethodName) prog_72_method_8_code (1 : Nat) (Option.some (Jvm.ClassFile.FieldType.array Jvm.ClassFile.FieldType.int)))).before a0 Z = true := hw _ (List.mem_of_getElem? (i := 74) rfl)
theorem w75 {Z : State} {a0 : Array Value} (hw : HW Z a0) : ((Jvm.Cond.methodLink "com/example/verichor/verichor/composition/Ints" (17 : Nat) ({ cls := "java/util/Arrays", name := "copyOf", desc := "([II)[I" } : Jvm.MethodName))).before a0 Z = true := hw _ (List.mem_of_getElem? (i := 75) rfl)
theorem w76 {Z : State} {a0 : Array Value} (hw : HW Z a0) : ((Jvm.Cond.static ({ cls := "java/util/Arrays", name := "copyOf", desc := "([II)[I" } : Jvm.MethodName))).before a0 Z = true := hw _ (List.mem_of_getElem? (i := 76) rfl)
theorem w77 {Z : State} {a0 : Array Value} (hw : HW Z a0) : ((Jvm.Cond.code ({ cls := "java/util/Arrays", name := "copyOf", desc := "([II)[I" } : Jvm.MethodName) jdk_65_method_123_code (3 : Nat) (Option.some (Jvm.ClassFile.FieldType.array Jvm.ClassFile.FieldType.int)))).before a0 Z = true := hw _ (List.mem_of_getElem? (i := 77) rfl)
theorem w78 {Z : State} {a0 : Array Value} (hw : HW Z a0) : ((Jvm.Cond.methodLink "java/util/Arrays" (304 : Nat) ({ cls := "java/lang/Math", name := "min", desc := "(II)I" } : Jvm.MethodName))).before a0 Z = true := hw _ (List.mem_of_getElem? (i := 78) rfl)
theorem w79 {Z : State} {a0 : Array Value} (hw : HW Z a0) : ((Jvm.Cond.static ({ cls := "java/lang/Math", name := "min", desc := "(II)I" } : Jvm.MethodName))).before a0 Z = true := hw _ (List.mem_of_getElem? (i := 79) rfl)
theorem w80 {Z : State} {a0 : Array Value} (hw : HW Z a0) : ((Jvm.Cond.initialized "java/lang/Math")).before a0 Z = true := hw _ (List.mem_of_getElem? (i := 80) rfl)
theorem w81 {Z : State} {a0 : Array Value} (hw : HW Z a0) : ((Jvm.Cond.code ({ cls := "java/lang/Math", name := "min", desc := "(II)I" } : Jvm.MethodName) jdk_29_method_69_code (2 : Nat) (Option.some Jvm.ClassFile.FieldType.int))).before a0 Z = true := hw _ (List.mem_of_getElem? (i := 81) rfl)
theorem w82 {Z : State} {a0 : Array Value} (hw : HW Z a0) : ((Jvm.Cond.methodLink "java/util/Arrays" (150 : Nat) ({ cls := "java/lang/System", name := "arraycopy", desc := "(Ljava/lang/Object;ILjava/lang/Object;II)V" } : Jvm.MethodName))).before a0 Z = true := hw _ (List.mem_of_getElem? (i := 82) rfl)
theorem w83 {Z : State} {a0 : Array Value} (hw : HW Z a0) : ((Jvm.Cond.static ({ cls := "java/lang/System", name := "arraycopy", desc := "(Ljava/lang/Object;ILjava/lang/Object;II)V" } : Jvm.MethodName))).before a0 Z = true := hw _ (List.mem_of_getElem? (i := 83) rfl)
theorem w84 {Z : State} {a0 : Array Value} (hw : HW Z a0) : ((Jvm.Cond.initialized "java/lang/System")).before a0 Z = true := hw _ (List.mem_of_getElem? (i := 84) rfl)
theorem w85 {Z : State} {a0 : Array Value} (hw : HW Z a0) : ((Jvm.Cond.native ({ cls := "java/lang/System", name := "arraycopy", desc := "(Ljava/lang/Object;ILjava/lang/Object;II)V" } : Jvm.MethodName))).before a0 Z = true := hw _ (List.mem_of_getElem? (i := 85) rfl)
theorem w86 {Z : State} {a0 : Array Value} (hw : HW Z a0) : ((Jvm.Cond.methodLink "com/example/verichor/verichor/explore/StateSet$Builder" (49 : Nat) ({ cls := "com/example/verichor/verichor/composition/Ints", name := "clear", desc := "()V" } : Jvm.MethodName))).before a0 Z = true := hw _ (List.mem_of_getElem? (i := 86) rfl)
theorem w87 {Z : State} {a0 : Array Value} (hw : HW Z a0) : ((Jvm.Cond.declares ({ cls := "com/example/verichor/verichor/composition/Ints", name := "clear", desc := "()V" } : Jvm.MethodName))).before a0 Z = true := hw _ (List.mem_of_getElem? (i := 87) rfl)
theorem w88 {Z : State} {a0 : Array Value} (hw : HW Z a0) : ((Jvm.Cond.instanceMethod ({ cls := "com/example/verichor/verichor/composition/Ints", name := "clear", desc := "()V" } : Jvm.MethodName))).before a0 Z = true := hw _ (List.mem_of_getElem? (i := 88) rfl)
theorem w89 {Z : State} {a0 : Array Value} (hw : HW Z a0) : ((Jvm.Cond.selects "com/example/verichor/verichor/composition/Ints" ({ cls := "com/example/verichor/verichor/composition/Ints", name := "clear", desc := "()V" } : Jvm.MethodName) ({ cls := "com/example/verichor/verichor/composition/Ints", name := "clear", desc := "()V" } : Jvm.MethodName))).before a0 Z = true := hw _ (List.mem_of_getElem? (i := 89) rfl)
theorem w90 {Z : State} {a0 : Array Value} (hw : HW Z a0) : ((Jvm.Cond.code ({ cls := "com/example/verichor/verichor/composition/Ints", name := "clear", desc := "()V" } : Jvm.MethodName) prog_72_method_6_code (1 : Nat) (Option.none : Option Jvm.ClassFile.FieldType))).before a0 Z = true := hw _ (List.mem_of_getElem? (i := 90) rfl)
theorem w91 {Z : State} {a0 : Array Value} (hw : HW Z a0) : ((Jvm.Cond.classLink "com/example/verichor/verichor/explore/StateSet$Builder" (52 : Nat) "com/example/verichor/verichor/explore/StateSet")).before a0 Z = true := hw _ (List.mem_of_getElem? (i := 91) rfl)
theorem w92 {Z : State} {a0 : Array Value} (hw : HW Z a0) : ((Jvm.Cond.instantiable "com/example/verichor/verichor/explore/StateSet" (5 : Nat))).before a0 Z = true := hw _ (List.mem_of_getElem? (i := 92) rfl)
theorem w93 {Z : State} {a0 : Array Value} (hw : HW Z a0) : ((Jvm.Cond.initialized "com/example/verichor/verichor/explore/StateSet")).before a0 Z = true := hw _ (List.mem_of_getElem? (i := 93) rfl)
theorem w94 {Z : State} {a0 : Array Value} (hw : HW Z a0) : ((Jvm.Cond.methodLinkNest "com/example/verichor/verichor/explore/StateSet$Builder" (54 : Nat) ({ cls := "com/example/verichor/verichor/explore/StateSet", name := "<init>", desc := "([I)V" } : Jvm.MethodName) "com/example/verichor/verichor/explore/StateSet")).before a0 Z = true := hw _ (List.mem_of_getElem? (i := 94) rfl)
theorem w95 {Z : State} {a0 : Array Value} (hw : HW Z a0) : ((Jvm.Cond.instanceMethod ({ cls := "com/example/verichor/verichor/explore/StateSet", name := "<init>", desc := "([I)V" } : Jvm.MethodName))).before a0 Z = true := hw _ (List.mem_of_getElem? (i := 95) rfl)
theorem w96 {Z : State} {a0 : Array Value} (hw : HW Z a0) : ((Jvm.Cond.code ({ cls := "com/example/verichor/verichor/explore/StateSet", name := "<init>", desc := "([I)V" } : Jvm.MethodName) prog_217_method_1_code (9 : Nat) (Option.none : Option Jvm.ClassFile.FieldType))).before a0 Z = true := hw _ (List.mem_of_getElem? (i := 96) rfl)
theorem w97 {Z : State} {a0 : Array Value} (hw : HW Z a0) : ((Jvm.Cond.methodLink "com/example/verichor/verichor/explore/StateSet" (1 : Nat) ({ cls := "java/lang/Object", name := "<init>", desc := "()V" } : Jvm.MethodName))).before a0 Z = true := hw _ (List.mem_of_getElem? (i := 97) rfl)
theorem w98 {Z : State} {a0 : Array Value} (hw : HW Z a0) : ((Jvm.Cond.fieldLink "com/example/verichor/verichor/explore/StateSet" (7 : Nat) "com/example/verichor/verichor/explore/StateSet" "lowest" "I")).before a0 Z = true := hw _ (List.mem_of_getElem? (i := 98) rfl)
theorem w99 {Z : State} {a0 : Array Value} (hw : HW Z a0) : ((Jvm.Cond.laysFinal "com/example/verichor/verichor/explore/StateSet" "com/example/verichor/verichor/explore/StateSet" "lowest" "I")).before a0 Z = true := hw _ (List.mem_of_getElem? (i := 99) rfl)
theorem w100 {Z : State} {a0 : Array Value} (hw : HW Z a0) : ((Jvm.Cond.fieldLink "com/example/verichor/verichor/explore/StateSet" (15 : Nat) "com/example/verichor/verichor/explore/StateSet" "members" "[I")).before a0 Z = true := hw _ (List.mem_of_getElem? (i := 100) rfl)
theorem w101 {Z : State} {a0 : Array Value} (hw : HW Z a0) : ((Jvm.Cond.laysFinal "com/example/verichor/verichor/explore/StateSet" "com/example/verichor/verichor/explore/StateSet" "members" "[I")).before a0 Z = true := hw _ (List.mem_of_getElem? (i := 101) rfl)
theorem w102 {Z : State} {a0 : Array Value} (hw : HW Z a0) : ((Jvm.Cond.fieldLink "com/example/verichor/verichor/explore/StateSet" (21 : Nat) "com/example/verichor/verichor/explore/StateSet" "bits" "[J")).before a0 Z = true := hw _ (List.mem_of_getElem? (i := 102) rfl)
theorem w103 {Z : State} {a0 : Array Value} (hw : HW Z a0) : ((Jvm.Cond.laysFinal "com/example/verichor/verichor/explore/StateSet" "com/example/verichor/verichor/explore/StateSet" "bits" "[J")).before a0 Z = true := hw _ (List.mem_of_getElem? (i := 103) rfl)
theorem w104 {Z : State} {a0 : Array Value} (hw : HW Z a0) : ((Jvm.Cond.fieldLink "com/example/verichor/verichor/explore/StateSet" (25 : Nat) "com/example/verichor/verichor/explore/StateSet" "numbers" "I")).before a0 Z = true := hw _ (List.mem_of_getElem? (i := 104) rfl)
theorem w105 {Z : State} {a0 : Array Value} (hw : HW Z a0) : ((Jvm.Cond.laysFinal "com/example/verichor/verichor/explore/StateSet" "com/example/verichor/verichor/explore/StateSet" "numbers" "I")).before a0 Z = true := hw _ (List.mem_of_getElem? (i := 105) rfl)
theorem w106 {Z : State} {a0 : Array Value} (hw : HW Z a0) : ((Jvm.Cond.methodLink "com/example/verichor/verichor/explore/StateSet" (28 : Nat) ({ cls := "java/util/Arrays", name := "hashCode", desc := "([J)I" } : Jvm.MethodName))).before a0 Z = true := hw _ (List.mem_of_getElem? (i := 106) rfl)
theorem w107 {Z : State} {a0 : Array Value} (hw : HW Z a0) : ((Jvm.Cond.static ({ cls := "java/util/Arrays", name := "hashCode", desc := "([J)I" } : Jvm.MethodName))).before a0 Z = true := hw _ (List.mem_of_getElem? (i := 107) rfl)
theorem w108 {Z : State} {a0 : Array Value} (hw : HW Z a0) : ((Jvm.Cond.code ({ cls := "java/util/Arrays", name := "hashCode", desc := "([J)I" } : Jvm.MethodName) jdk_65_method_149_code (8 : Nat) (Option.some Jvm.ClassFile.FieldType.int))).before a0 Z = true := hw _ (List.mem_of_getElem? (i := 108) rfl)
theorem w109 {Z : State} {a0 : Array Value} (hw : HW Z a0) : ((Jvm.Cond.fieldLink "com/example/verichor/verichor/explore/StateSet" (34 : Nat) "com/example/verichor/verichor/explore/StateSet" "hash" "I")).before a0 Z = true := hw _ (List.mem_of_getElem? (i := 109) rfl)
theorem w110 {Z : State} {a0 : Array Value} (hw : HW Z a0) : ((Jvm.Cond.laysFinal "com/example/verichor/verichor/explore/StateSet" "com/example/verichor/verichor/explore/StateSet" "hash" "I")).before a0 Z = true := hw _ (List.mem_of_getElem? (i := 110) rfl)
theorem w111 {Z : State} {a0 : Array Value} (hw : HW Z a0) : ((Jvm.Cond.methodLink "com/example/verichor/verichor/explore/StateSet$Builder" (26 : Nat) ({ cls := "java/lang/Math", name := "max", desc := "(II)I" } : Jvm.MethodName))).before a0 Z = true := hw _ (List.mem_of_getElem? (i := 111) rfl)
theorem w112 {Z : State} {a0 : Array Value} (hw : HW Z a0) : ((Jvm.Cond.static ({ cls := "java/lang/Math", name := "max", desc := "(II)I" } : Jvm.MethodName))).before a0 Z = true := hw _ (List.mem_of_getElem? (i := 112) rfl)
theorem w113 {Z : State} {a0 : Array Value} (hw : HW Z a0) : ((Jvm.Cond.code ({ cls := "java/lang/Math", name := "max", desc := "(II)I" } : Jvm.MethodName) jdk_29_method_65_code (2 : Nat) (Option.some Jvm.ClassFile.FieldType.int))).before a0 Z = true := hw _ (List.mem_of_getElem? (i := 113) rfl)
theorem w114 {Z : State} {a0 : Array Value} (hw : HW Z a0) : ((Jvm.Cond.methodLink "com/example/verichor/verichor/explore/StateSet$Builder" (32 : Nat) ({ cls := "java/util/Arrays", name := "copyOf", desc := "([JI)[J" } : Jvm.MethodName))).before a0 Z = true := hw _ (List.mem_of_getElem? (i := 114) rfl)
theorem w115 {Z : State} {a0 : Array Value} (hw : HW Z a0) : ((Jvm.Cond.static ({ cls := "java/util/Arrays", name := "copyOf", desc := "([JI)[J" } : Jvm.MethodName))).before a0 Z = true := hw _ (List.mem_of_getElem? (i := 115) rfl)
theorem w116 {Z : State} {a0 : Array Value} (hw : HW Z a0) : ((Jvm.Cond.code ({ cls := "java/util/Arrays", name := "copyOf", desc := "([JI)[J" } : Jvm.MethodName) jdk_65_method_124_code (3 : Nat) (Option.some (Jvm.ClassFile.FieldType.array Jvm.ClassFile.FieldType.long)))).before a0 Z = true := hw _ (List.mem_of_getElem? (i := 116) rfl)
theorem w117 {Z : State} {a0 : Array Value} (hw : HW Z a0) : ((Jvm.Cond.methodLink "com/example/verichor/verichor/explore/StateSet" (37 : Nat) ({ cls := "java/util/Arrays", name := "hashCode", desc := "([I)I" } : Jvm.MethodName))).before a0 Z = true := hw _ (List.mem_of_getElem? (i := 117) rfl)
theorem w118 {Z : State} {a0 : Array Value} (hw : HW Z a0) : ((Jvm.Cond.static ({ cls := "java/util/Arrays", name := "hashCode", desc := "([I)I" } : Jvm.MethodName))).before a0 Z = true := hw _ (List.mem_of_getElem? (i := 118) rfl)
theorem w119 {Z : State} {a0 : Array Value} (hw : HW Z a0) : ((Jvm.Cond.code ({ cls := "java/util/Arrays", name := "hashCode", desc := "([I)I" } : Jvm.MethodName) jdk_65_method_150_code (1 : Nat) (Option.some Jvm.ClassFile.FieldType.int))).before a0 Z = true := hw _ (List.mem_of_getElem? (i := 119) rfl)
theorem w120 {Z : State} {a0 : Array Value} (hw : HW Z a0) : ((Jvm.Cond.methodLink "java/util/Arrays" (379 : Nat) ({ cls := "jdk/internal/util/ArraysSupport", name := "vectorizedHashCode", desc := "(Ljava/lang/Object;IIII)I" } : Jvm.MethodName))).before a0 Z = true := hw _ (List.mem_of_getElem? (i := 120) rfl)
theorem w121 {Z : State} {a0 : Array Value} (hw : HW Z a0) : ((Jvm.Cond.static ({ cls := "jdk/internal/util/ArraysSupport", name := "vectorizedHashCode", desc := "(Ljava/lang/Object;IIII)I" } : Jvm.MethodName))).before a0 Z = true := hw _ (List.mem_of_getElem? (i := 121) rfl)
theorem w122 {Z : State} {a0 : Array Value} (hw : HW Z a0) : ((Jvm.Cond.initialized "jdk/internal/util/ArraysSupport")).before a0 Z = true := hw _ (List.mem_of_getElem? (i := 122) rfl)
theorem w123 {Z : State} {a0 : Array Value} (hw : HW Z a0) : ((Jvm.Cond.code ({ cls := "jdk/internal/util/ArraysSupport", name := "vectorizedHashCode", desc := "(Ljava/lang/Object;IIII)I" } : Jvm.MethodName) jdk_48_method_4_code (5 : Nat) (Option.some Jvm.ClassFile.FieldType.int))).before a0 Z = true := hw _ (List.mem_of_getElem? (i := 123) rfl)
theorem w124 {Z : State} {a0 : Array Value} (hw : HW Z a0) : ((Jvm.Cond.classLink "jdk/internal/util/ArraysSupport" (82 : Nat) "[I")).before a0 Z = true := hw _ (List.mem_of_getElem? (i := 124) rfl)
theorem w126 {Z : State} {a0 : Array Value} (hw : HW Z a0) : ((Jvm.Cond.methodLink "jdk/internal/util/ArraysSupport" (84 : Nat) ({ cls := "jdk/internal/util/ArraysSupport", name := "hashCode", desc := "(I[III)I" } : Jvm.MethodName))).before a0 Z = true := hw _ (List.mem_of_getElem? (i := 126) rfl)
theorem w127 {Z : State} {a0 : Array Value} (hw : HW Z a0) : ((Jvm.Cond.static ({ cls := "jdk/internal/util/ArraysSupport", name := "hashCode", desc := "(I[III)I" } : Jvm.MethodName))).before a0 Z = true := hw _ (List.mem_of_getElem? (i := 127) rfl)
theorem w128 {Z : State} {a0 : Array Value} (hw : HW Z a0) : ((Jvm.Cond.code ({ cls := "jdk/internal/util/ArraysSupport", name := "hashCode", desc := "(I[III)I" } : Jvm.MethodName) jdk_48_method_9_code (6 : Nat) (Option.some Jvm.ClassFile.FieldType.int))).before a0 Z = true := hw _ (List.mem_of_getElem? (i := 128) rfl)
theorem pd0 : parseMethodDescriptor "()V" = some ⟨[], none⟩ := by decide +kernel
theorem pd1 : parseMethodDescriptor "(II)I" = some ⟨[.int, .int], some .int⟩ := by decide +kernel
theorem pd2 : parseMethodDescriptor "(I)Z" = some ⟨[.int], some .boolean⟩ := by decide +kernel
theorem pd3 : parseMethodDescriptor "(I)V" = some ⟨[.int], none⟩ := by decide +kernel
theorem pd4 : parseMethodDescriptor "([JI)[J" = some ⟨[(.array .long), .int], some (.array .long)⟩ := by decide +kernel
theorem pd5 : parseMethodDescriptor "([III)V" = some ⟨[(.array .int), .int, .int], none⟩ := by decide +kernel
theorem pd6 : parseMethodDescriptor "(Ljava/util/DualPivotQuicksort$Sorter;[IIII)V" = some ⟨[(.object "java/util/DualPivotQuicksort$Sorter"), (.array .int), .int, .int, .int], none⟩ := by decide +kernel
theorem pd7 : parseMethodDescriptor "(III)V" = some ⟨[.int, .int, .int], none⟩ := by decide +kernel
theorem pd8 : parseMethodDescriptor "([IIII)V" = some ⟨[(.array .int), .int, .int, .int], none⟩ := by decide +kernel
theorem pd9 : parseMethodDescriptor "([II)[I" = some ⟨[(.array .int), .int], some (.array .int)⟩ := by decide +kernel
theorem pd10 : parseMethodDescriptor "(I[III)I" = some ⟨[.int, (.array .int), .int, .int], some .int⟩ := by decide +kernel
theorem pd11 : parseMethodDescriptor "(Ljava/lang/Object;IIII)I" = some ⟨[(.object "java/lang/Object"), .int, .int, .int, .int], some .int⟩ := by decide +kernel
theorem pd12 : parseMethodDescriptor "([J)I" = some ⟨[(.array .long)], some .int⟩ := by decide +kernel
theorem pd13 : parseMethodDescriptor "([I)I" = some ⟨[(.array .int)], some .int⟩ := by decide +kernel
theorem pd14 : parseMethodDescriptor "()[I" = some ⟨[], some (.array .int)⟩ := by decide +kernel
theorem pd15 : parseMethodDescriptor "([I)V" = some ⟨[(.array .int)], none⟩ := by decide +kernel
theorem pd16 : parseMethodDescriptor "()Lcom/example/verichor/verichor/explore/StateSet;" = some ⟨[], some (.object "com/example/verichor/verichor/explore/StateSet")⟩ := by decide +kernel
theorem d0_0 : Dc jdk_29_method_69_code 0 (.iload_n 0) 1 1 := ⟨by decide +kernel, rfl⟩
theorem d0_1 : Dc jdk_29_method_69_code 1 (.iload_n 1) 1 2 := ⟨by decide +kernel, rfl⟩
theorem d0_2 : Db jdk_29_method_69_code 2 (.if_icmp .gt 7) 7 5 9 := ⟨by decide +kernel, rfl, by decide, by decide⟩
theorem d0_9 : Dc jdk_29_method_69_code 9 (.iload_n 1) 1 10 := ⟨by decide +kernel, rfl⟩
theorem d0_10 : Dc jdk_29_method_69_code 10 (.ireturn) 1 11 := ⟨by decide +kernel, rfl⟩
theorem d0_5 : Dc jdk_29_method_69_code 5 (.iload_n 0) 1 6 := ⟨by decide +kernel, rfl⟩
theorem d0_6 : Db jdk_29_method_69_code 6 (.goto 4) 4 9 10 := ⟨by decide +kernel, rfl, by decide, by decide⟩
theorem d1_0 : Dc jdk_29_method_65_code 0 (.iload_n 0) 1 1 := ⟨by decide +kernel, rfl⟩
theorem d1_1 : Dc jdk_29_method_65_code 1 (.iload_n 1) 1 2 := ⟨by decide +kernel, rfl⟩
theorem d1_2 : Db jdk_29_method_65_code 2 (.if_icmp .lt 7) 7 5 9 := ⟨by decide +kernel, rfl, by decide, by decide⟩
theorem d1_9 : Dc jdk_29_method_65_code 9 (.iload_n 1) 1 10 := ⟨by decide +kernel, rfl⟩
theorem d1_10 : Dc jdk_29_method_65_code 10 (.ireturn) 1 11 := ⟨by decide +kernel, rfl⟩
theorem d1_5 : Dc jdk_29_method_65_code 5 (.iload_n 0) 1 6 := ⟨by decide +kernel, rfl⟩
theorem d1_6 : Db jdk_29_method_65_code 6 (.goto 4) 4 9 10 := ⟨by decide +kernel, rfl, by decide, by decide⟩
theorem d2_0 : Dc prog_72_method_1_code 0 (.aload_n 0) 1 1 := ⟨by decide +kernel, rfl⟩
theorem d2_1 : Dc prog_72_method_1_code 1 (.invokespecial 1) 3 4 := ⟨by decide +kernel, rfl⟩
theorem d2_4 : Dc prog_72_method_1_code 4 (.aload_n 0) 1 5 := ⟨by decide +kernel, rfl⟩
theorem d2_5 : Dc prog_72_method_1_code 5 (.iconst 4) 1 6 := ⟨by decide +kernel, rfl⟩
theorem d2_6 : Dc prog_72_method_1_code 6 (.newarray .int) 2 8 := ⟨by decide +kernel, rfl⟩
theorem d2_8 : Dc prog_72_method_1_code 8 (.putfield 7) 3 11 := ⟨by decide +kernel, rfl⟩
theorem d2_11 : Dc prog_72_method_1_code 11 (.return_) 1 12 := ⟨by decide +kernel, rfl⟩
theorem d3_0 : Dc prog_218_method_1_code 0 (.aload_n 0) 1 1 := ⟨by decide +kernel, rfl⟩
theorem d3_1 : Dc prog_218_method_1_code 1 (.invokespecial 1) 3 4 := ⟨by decide +kernel, rfl⟩
theorem d3_4 : Dc prog_218_method_1_code 4 (.aload_n 0) 1 5 := ⟨by decide +kernel, rfl⟩
theorem d3_5 : Dc prog_218_method_1_code 5 (.iconst 1) 1 6 := ⟨by decide +kernel, rfl⟩
theorem d3_6 : Dc prog_218_method_1_code 6 (.newarray .long) 2 8 := ⟨by decide +kernel, rfl⟩
theorem d3_8 : Dc prog_218_method_1_code 8 (.putfield 7) 3 11 := ⟨by decide +kernel, rfl⟩
theorem d3_11 : Dc prog_218_method_1_code 11 (.aload_n 0) 1 12 := ⟨by decide +kernel, rfl⟩
theorem d3_12 : Dc prog_218_method_1_code 12 (.new 13) 3 15 := ⟨by decide +kernel, rfl⟩
theorem d3_15 : Dc prog_218_method_1_code 15 (.dup) 1 16 := ⟨by decide +kernel, rfl⟩
theorem d3_16 : Dc prog_218_method_1_code 16 (.invokespecial 15) 3 19 := ⟨by decide +kernel, rfl⟩
theorem d3_19 : Dc prog_218_method_1_code 19 (.putfield 16) 3 22 := ⟨by decide +kernel, rfl⟩
theorem d3_22 : Dc prog_218_method_1_code 22 (.return_) 1 23 := ⟨by decide +kernel, rfl⟩
theorem d4_0 : Dc prog_218_method_2_code 0 (.iload_n 1) 1 1 := ⟨by decide +kernel, rfl⟩
theorem d4_1 : Dc prog_218_method_2_code 1 (.bipush 64) 2 3 := ⟨by decide +kernel, rfl⟩
theorem d4_3 : Dc prog_218_method_2_code 3 (.idiv) 1 4 := ⟨by decide +kernel, rfl⟩
theorem d4_4 : Dc prog_218_method_2_code 4 (.istore_n 2) 1 5 := ⟨by decide +kernel, rfl⟩
theorem d4_5 : Dc prog_218_method_2_code 5 (.iload_n 2) 1 6 := ⟨by decide +kernel, rfl⟩
theorem d4_6 : Dc prog_218_method_2_code 6 (.aload_n 0) 1 7 := ⟨by decide +kernel, rfl⟩
theorem d4_7 : Dc prog_218_method_2_code 7 (.getfield 7) 3 10 := ⟨by decide +kernel, rfl⟩
theorem d4_10 : Dc prog_218_method_2_code 10 (.arraylength) 1 11 := ⟨by decide +kernel, rfl⟩
theorem d4_11 : Db prog_218_method_2_code 11 (.if_icmp .ge 25) 25 14 36 := ⟨by decide +kernel, rfl, by decide, by decide⟩
theorem d4_14 : Dc prog_218_method_2_code 14 (.aload_n 0) 1 15 := ⟨by decide +kernel, rfl⟩
theorem d4_15 : Dc prog_218_method_2_code 15 (.getfield 7) 3 18 := ⟨by decide +kernel, rfl⟩
theorem d4_18 : Dc prog_218_method_2_code 18 (.iload_n 2) 1 19 := ⟨by decide +kernel, rfl⟩
theorem d4_19 : Dc prog_218_method_2_code 19 (.laload) 1 20 := ⟨by decide +kernel, rfl⟩
theorem d4_20 : Dc prog_218_method_2_code 20 (.lconst 1) 1 21 := ⟨by decide +kernel, rfl⟩
theorem d4_21 : Dc prog_218_method_2_code 21 (.iload_n 1) 1 22 := ⟨by decide +kernel, rfl⟩
theorem d4_22 : Dc prog_218_method_2_code 22 (.bipush 64) 2 24 := ⟨by decide +kernel, rfl⟩
theorem d4_24 : Dc prog_218_method_2_code 24 (.irem) 1 25 := ⟨by decide +kernel, rfl⟩
theorem d4_25 : Dc prog_218_method_2_code 25 (.lshl) 1 26 := ⟨by decide +kernel, rfl⟩
theorem d4_26 : Dc prog_218_method_2_code 26 (.land) 1 27 := ⟨by decide +kernel, rfl⟩
theorem d4_27 : Dc prog_218_method_2_code 27 (.lconst 0) 1 28 := ⟨by decide +kernel, rfl⟩
theorem d4_28 : Dc prog_218_method_2_code 28 (.lcmp) 1 29 := ⟨by decide +kernel, rfl⟩
theorem d4_29 : Db prog_218_method_2_code 29 (.ifCond .eq 7) 7 32 36 := ⟨by decide +kernel, rfl, by decide, by decide⟩
theorem d4_36 : Dc prog_218_method_2_code 36 (.iconst 0) 1 37 := ⟨by decide +kernel, rfl⟩
theorem d4_37 : Dc prog_218_method_2_code 37 (.ireturn) 1 38 := ⟨by decide +kernel, rfl⟩
theorem d4_32 : Dc prog_218_method_2_code 32 (.iconst 1) 1 33 := ⟨by decide +kernel, rfl⟩
theorem d4_33 : Db prog_218_method_2_code 33 (.goto 4) 4 36 37 := ⟨by decide +kernel, rfl, by decide, by decide⟩
theorem d5_0 : Dc jdk_65_method_124_code 0 (.iload_n 1) 1 1 := ⟨by decide +kernel, rfl⟩
theorem d5_1 : Dc jdk_65_method_124_code 1 (.aload_n 0) 1 2 := ⟨by decide +kernel, rfl⟩
theorem d5_2 : Dc jdk_65_method_124_code 2 (.arraylength) 1 3 := ⟨by decide +kernel, rfl⟩
theorem d5_3 : Db jdk_65_method_124_code 3 (.if_icmp .ne 11) 11 6 14 := ⟨by decide +kernel, rfl, by decide, by decide⟩
theorem d5_14 : Dc jdk_65_method_124_code 14 (.iload_n 1) 1 15 := ⟨by decide +kernel, rfl⟩
theorem d5_15 : Dc jdk_65_method_124_code 15 (.newarray .long) 2 17 := ⟨by decide +kernel, rfl⟩
theorem d5_17 : Dc jdk_65_method_124_code 17 (.astore_n 2) 1 18 := ⟨by decide +kernel, rfl⟩
theorem d5_18 : Dc jdk_65_method_124_code 18 (.aload_n 0) 1 19 := ⟨by decide +kernel, rfl⟩
theorem d5_19 : Dc jdk_65_method_124_code 19 (.iconst 0) 1 20 := ⟨by decide +kernel, rfl⟩
theorem d5_20 : Dc jdk_65_method_124_code 20 (.aload_n 2) 1 21 := ⟨by decide +kernel, rfl⟩
theorem d5_21 : Dc jdk_65_method_124_code 21 (.iconst 0) 1 22 := ⟨by decide +kernel, rfl⟩
theorem d5_22 : Dc jdk_65_method_124_code 22 (.aload_n 0) 1 23 := ⟨by decide +kernel, rfl⟩
theorem d5_23 : Dc jdk_65_method_124_code 23 (.arraylength) 1 24 := ⟨by decide +kernel, rfl⟩
theorem d5_24 : Dc jdk_65_method_124_code 24 (.iload_n 1) 1 25 := ⟨by decide +kernel, rfl⟩
theorem d5_25 : Dc jdk_65_method_124_code 25 (.invokestatic 304) 3 28 := ⟨by decide +kernel, rfl⟩
theorem d5_28 : Dc jdk_65_method_124_code 28 (.invokestatic 150) 3 31 := ⟨by decide +kernel, rfl⟩
theorem d5_31 : Dc jdk_65_method_124_code 31 (.aload_n 2) 1 32 := ⟨by decide +kernel, rfl⟩
theorem d5_32 : Dc jdk_65_method_124_code 32 (.areturn) 1 33 := ⟨by decide +kernel, rfl⟩
theorem d6_0 : Dc jdk_65_method_123_code 0 (.iload_n 1) 1 1 := ⟨by decide +kernel, rfl⟩
theorem d6_1 : Dc jdk_65_method_123_code 1 (.aload_n 0) 1 2 := ⟨by decide +kernel, rfl⟩
theorem d6_2 : Dc jdk_65_method_123_code 2 (.arraylength) 1 3 := ⟨by decide +kernel, rfl⟩
theorem d6_3 : Db jdk_65_method_123_code 3 (.if_icmp .ne 11) 11 6 14 := ⟨by decide +kernel, rfl, by decide, by decide⟩
theorem d6_14 : Dc jdk_65_method_123_code 14 (.iload_n 1) 1 15 := ⟨by decide +kernel, rfl⟩
theorem d6_15 : Dc jdk_65_method_123_code 15 (.newarray .int) 2 17 := ⟨by decide +kernel, rfl⟩
theorem d6_17 : Dc jdk_65_method_123_code 17 (.astore_n 2) 1 18 := ⟨by decide +kernel, rfl⟩
theorem d6_18 : Dc jdk_65_method_123_code 18 (.aload_n 0) 1 19 := ⟨by decide +kernel, rfl⟩
theorem d6_19 : Dc jdk_65_method_123_code 19 (.iconst 0) 1 20 := ⟨by decide +kernel, rfl⟩
theorem d6_20 : Dc jdk_65_method_123_code 20 (.aload_n 2) 1 21 := ⟨by decide +kernel, rfl⟩
theorem d6_21 : Dc jdk_65_method_123_code 21 (.iconst 0) 1 22 := ⟨by decide +kernel, rfl⟩
theorem d6_22 : Dc jdk_65_method_123_code 22 (.aload_n 0) 1 23 := ⟨by decide +kernel, rfl⟩
theorem d6_23 : Dc jdk_65_method_123_code 23 (.arraylength) 1 24 := ⟨by decide +kernel, rfl⟩
theorem d6_24 : Dc jdk_65_method_123_code 24 (.iload_n 1) 1 25 := ⟨by decide +kernel, rfl⟩
theorem d6_25 : Dc jdk_65_method_123_code 25 (.invokestatic 304) 3 28 := ⟨by decide +kernel, rfl⟩
theorem d6_28 : Dc jdk_65_method_123_code 28 (.invokestatic 150) 3 31 := ⟨by decide +kernel, rfl⟩
theorem d6_31 : Dc jdk_65_method_123_code 31 (.aload_n 2) 1 32 := ⟨by decide +kernel, rfl⟩
theorem d6_32 : Dc jdk_65_method_123_code 32 (.areturn) 1 33 := ⟨by decide +kernel, rfl⟩
theorem d7_0 : Dc prog_72_method_2_code 0 (.aload_n 0) 1 1 := ⟨by decide +kernel, rfl⟩
theorem d7_1 : Dc prog_72_method_2_code 1 (.getfield 13) 3 4 := ⟨by decide +kernel, rfl⟩
theorem d7_4 : Dc prog_72_method_2_code 4 (.aload_n 0) 1 5 := ⟨by decide +kernel, rfl⟩
theorem d7_5 : Dc prog_72_method_2_code 5 (.getfield 7) 3 8 := ⟨by decide +kernel, rfl⟩
theorem d7_8 : Dc prog_72_method_2_code 8 (.arraylength) 1 9 := ⟨by decide +kernel, rfl⟩
theorem d7_9 : Db prog_72_method_2_code 9 (.if_icmp .ne 20) 20 12 29 := ⟨by decide +kernel, rfl, by decide, by decide⟩
theorem d7_29 : Dc prog_72_method_2_code 29 (.aload_n 0) 1 30 := ⟨by decide +kernel, rfl⟩
theorem d7_30 : Dc prog_72_method_2_code 30 (.getfield 7) 3 33 := ⟨by decide +kernel, rfl⟩
theorem d7_33 : Dc prog_72_method_2_code 33 (.aload_n 0) 1 34 := ⟨by decide +kernel, rfl⟩
theorem d7_34 : Dc prog_72_method_2_code 34 (.dup) 1 35 := ⟨by decide +kernel, rfl⟩
theorem d7_35 : Dc prog_72_method_2_code 35 (.getfield 13) 3 38 := ⟨by decide +kernel, rfl⟩
theorem d7_38 : Dc prog_72_method_2_code 38 (.dup_x1) 1 39 := ⟨by decide +kernel, rfl⟩
theorem d7_39 : Dc prog_72_method_2_code 39 (.iconst 1) 1 40 := ⟨by decide +kernel, rfl⟩
theorem d7_40 : Dc prog_72_method_2_code 40 (.iadd) 1 41 := ⟨by decide +kernel, rfl⟩
theorem d7_41 : Dc prog_72_method_2_code 41 (.putfield 13) 3 44 := ⟨by decide +kernel, rfl⟩
theorem d7_44 : Dc prog_72_method_2_code 44 (.iload_n 1) 1 45 := ⟨by decide +kernel, rfl⟩
theorem d7_45 : Dc prog_72_method_2_code 45 (.iastore) 1 46 := ⟨by decide +kernel, rfl⟩
theorem d7_46 : Dc prog_72_method_2_code 46 (.return_) 1 47 := ⟨by decide +kernel, rfl⟩
theorem d8_0 : Dc prog_218_method_3_code 0 (.aload_n 0) 1 1 := ⟨by decide +kernel, rfl⟩
theorem d8_1 : Dc prog_218_method_3_code 1 (.iload_n 1) 1 2 := ⟨by decide +kernel, rfl⟩
theorem d8_2 : Dc prog_218_method_3_code 2 (.invokevirtual 22) 3 5 := ⟨by decide +kernel, rfl⟩
theorem d8_5 : Db prog_218_method_3_code 5 (.ifCond .eq 5) 5 8 10 := ⟨by decide +kernel, rfl, by decide, by decide⟩
theorem d8_8 : Dc prog_218_method_3_code 8 (.iconst 0) 1 9 := ⟨by decide +kernel, rfl⟩
theorem d8_9 : Dc prog_218_method_3_code 9 (.ireturn) 1 10 := ⟨by decide +kernel, rfl⟩
theorem d8_10 : Dc prog_218_method_3_code 10 (.iload_n 1) 1 11 := ⟨by decide +kernel, rfl⟩
theorem d8_11 : Dc prog_218_method_3_code 11 (.bipush 64) 2 13 := ⟨by decide +kernel, rfl⟩
theorem d8_13 : Dc prog_218_method_3_code 13 (.idiv) 1 14 := ⟨by decide +kernel, rfl⟩
theorem d8_14 : Dc prog_218_method_3_code 14 (.istore_n 2) 1 15 := ⟨by decide +kernel, rfl⟩
theorem d8_15 : Dc prog_218_method_3_code 15 (.iload_n 2) 1 16 := ⟨by decide +kernel, rfl⟩
theorem d8_16 : Dc prog_218_method_3_code 16 (.aload_n 0) 1 17 := ⟨by decide +kernel, rfl⟩
theorem d8_17 : Dc prog_218_method_3_code 17 (.getfield 7) 3 20 := ⟨by decide +kernel, rfl⟩
theorem d8_20 : Dc prog_218_method_3_code 20 (.arraylength) 1 21 := ⟨by decide +kernel, rfl⟩
theorem d8_48 : Dc prog_218_method_3_code 48 (.aload_n 0) 1 49 := ⟨by decide +kernel, rfl⟩
theorem d8_49 : Dc prog_218_method_3_code 49 (.getfield 7) 3 52 := ⟨by decide +kernel, rfl⟩
theorem d8_52 : Dc prog_218_method_3_code 52 (.iload_n 2) 1 53 := ⟨by decide +kernel, rfl⟩
theorem d8_53 : Dc prog_218_method_3_code 53 (.dup2) 1 54 := ⟨by decide +kernel, rfl⟩
theorem d8_54 : Dc prog_218_method_3_code 54 (.laload) 1 55 := ⟨by decide +kernel, rfl⟩
theorem d8_55 : Dc prog_218_method_3_code 55 (.lconst 1) 1 56 := ⟨by decide +kernel, rfl⟩
theorem d8_56 : Dc prog_218_method_3_code 56 (.iload_n 1) 1 57 := ⟨by decide +kernel, rfl⟩
theorem d8_57 : Dc prog_218_method_3_code 57 (.bipush 64) 2 59 := ⟨by decide +kernel, rfl⟩
theorem d8_59 : Dc prog_218_method_3_code 59 (.irem) 1 60 := ⟨by decide +kernel, rfl⟩
theorem d8_60 : Dc prog_218_method_3_code 60 (.lshl) 1 61 := ⟨by decide +kernel, rfl⟩
theorem d8_61 : Dc prog_218_method_3_code 61 (.lor) 1 62 := ⟨by decide +kernel, rfl⟩
theorem d8_62 : Dc prog_218_method_3_code 62 (.lastore) 1 63 := ⟨by decide +kernel, rfl⟩
theorem d8_63 : Dc prog_218_method_3_code 63 (.aload_n 0) 1 64 := ⟨by decide +kernel, rfl⟩
theorem d8_64 : Dc prog_218_method_3_code 64 (.getfield 16) 3 67 := ⟨by decide +kernel, rfl⟩
theorem d8_67 : Dc prog_218_method_3_code 67 (.iload_n 1) 1 68 := ⟨by decide +kernel, rfl⟩
theorem d8_68 : Dc prog_218_method_3_code 68 (.invokevirtual 38) 3 71 := ⟨by decide +kernel, rfl⟩
theorem d8_71 : Dc prog_218_method_3_code 71 (.iconst 1) 1 72 := ⟨by decide +kernel, rfl⟩
theorem d8_72 : Dc prog_218_method_3_code 72 (.ireturn) 1 73 := ⟨by decide +kernel, rfl⟩
theorem d8_21 : Db prog_218_method_3_code 21 (.if_icmp .lt 27) 27 24 48 := ⟨by decide +kernel, rfl, by decide, by decide⟩
theorem d8_24 : Dc prog_218_method_3_code 24 (.aload_n 0) 1 25 := ⟨by decide +kernel, rfl⟩
theorem d8_25 : Dc prog_218_method_3_code 25 (.aload_n 0) 1 26 := ⟨by decide +kernel, rfl⟩
theorem d8_26 : Dc prog_218_method_3_code 26 (.getfield 7) 3 29 := ⟨by decide +kernel, rfl⟩
theorem d8_29 : Dc prog_218_method_3_code 29 (.iload_n 2) 1 30 := ⟨by decide +kernel, rfl⟩
theorem d8_30 : Dc prog_218_method_3_code 30 (.iconst 1) 1 31 := ⟨by decide +kernel, rfl⟩
theorem d8_31 : Dc prog_218_method_3_code 31 (.iadd) 1 32 := ⟨by decide +kernel, rfl⟩
theorem d8_32 : Dc prog_218_method_3_code 32 (.iconst 2) 1 33 := ⟨by decide +kernel, rfl⟩
theorem d8_33 : Dc prog_218_method_3_code 33 (.aload_n 0) 1 34 := ⟨by decide +kernel, rfl⟩
theorem d8_34 : Dc prog_218_method_3_code 34 (.getfield 7) 3 37 := ⟨by decide +kernel, rfl⟩
theorem d8_37 : Dc prog_218_method_3_code 37 (.arraylength) 1 38 := ⟨by decide +kernel, rfl⟩
theorem d8_38 : Dc prog_218_method_3_code 38 (.imul) 1 39 := ⟨by decide +kernel, rfl⟩
theorem d8_39 : Dc prog_218_method_3_code 39 (.invokestatic 26) 3 42 := ⟨by decide +kernel, rfl⟩
theorem d8_42 : Dc prog_218_method_3_code 42 (.invokestatic 32) 3 45 := ⟨by decide +kernel, rfl⟩
theorem d8_45 : Dc prog_218_method_3_code 45 (.putfield 7) 3 48 := ⟨by decide +kernel, rfl⟩
theorem d9_0 : Dc jdk_65_method_30_code 0 (.iload_n 1) 1 1 := ⟨by decide +kernel, rfl⟩
theorem d9_1 : Dc jdk_65_method_30_code 1 (.iload_n 2) 1 2 := ⟨by decide +kernel, rfl⟩
theorem d9_2 : Db jdk_65_method_30_code 2 (.if_icmp .le 44) 44 5 46 := ⟨by decide +kernel, rfl, by decide, by decide⟩
theorem d9_46 : Dc jdk_65_method_30_code 46 (.iload_n 1) 1 47 := ⟨by decide +kernel, rfl⟩
theorem d9_47 : Db jdk_65_method_30_code 47 (.ifCond .ge 12) 12 50 59 := ⟨by decide +kernel, rfl, by decide, by decide⟩
theorem d9_59 : Dc jdk_65_method_30_code 59 (.iload_n 2) 1 60 := ⟨by decide +kernel, rfl⟩
theorem d9_60 : Dc jdk_65_method_30_code 60 (.iload_n 0) 1 61 := ⟨by decide +kernel, rfl⟩
theorem d9_61 : Db jdk_65_method_30_code 61 (.if_icmp .le 12) 12 64 73 := ⟨by decide +kernel, rfl, by decide, by decide⟩
theorem d9_73 : Dc jdk_65_method_30_code 73 (.return_) 1 74 := ⟨by decide +kernel, rfl⟩
theorem d10_0 : Dc jdk_2529_method_6_code 0 (.iload_n 1) 1 1 := ⟨by decide +kernel, rfl⟩
theorem d10_1 : Dc jdk_2529_method_6_code 1 (.istore 4) 2 3 := ⟨by decide +kernel, rfl⟩
theorem d10_3 : Dc jdk_2529_method_6_code 3 (.iinc 4 1) 3 6 := ⟨by decide +kernel, rfl⟩
theorem d10_6 : Dc jdk_2529_method_6_code 6 (.iload 4) 2 8 := ⟨by decide +kernel, rfl⟩
theorem d10_8 : Dc jdk_2529_method_6_code 8 (.iload_n 2) 1 9 := ⟨by decide +kernel, rfl⟩
theorem d10_9 : Db jdk_2529_method_6_code 9 (.if_icmp .ge 58) 58 12 67 := ⟨by decide +kernel, rfl, by decide, by decide⟩
theorem d10_67 : Dc jdk_2529_method_6_code 67 (.return_) 1 68 := ⟨by decide +kernel, rfl⟩
theorem d11_0 : Dc jdk_2529_method_4_code 0 (.iload 4) 2 2 := ⟨by decide +kernel, rfl⟩
theorem d11_2 : Dc jdk_2529_method_4_code 2 (.iconst 1) 1 3 := ⟨by decide +kernel, rfl⟩
theorem d11_3 : Dc jdk_2529_method_4_code 3 (.isub) 1 4 := ⟨by decide +kernel, rfl⟩
theorem d11_4 : Dc jdk_2529_method_4_code 4 (.istore 5) 2 6 := ⟨by decide +kernel, rfl⟩
theorem d11_6 : Dc jdk_2529_method_4_code 6 (.iload 4) 2 8 := ⟨by decide +kernel, rfl⟩
theorem d11_8 : Dc jdk_2529_method_4_code 8 (.iload_n 3) 1 9 := ⟨by decide +kernel, rfl⟩
theorem d11_9 : Dc jdk_2529_method_4_code 9 (.isub) 1 10 := ⟨by decide +kernel, rfl⟩
theorem d11_10 : Dc jdk_2529_method_4_code 10 (.istore 6) 2 12 := ⟨by decide +kernel, rfl⟩
theorem d11_12 : Dc jdk_2529_method_4_code 12 (.iload 6) 2 14 := ⟨by decide +kernel, rfl⟩
theorem d11_14 : Dc jdk_2529_method_4_code 14 (.bipush 65) 2 16 := ⟨by decide +kernel, rfl⟩
theorem d11_16 : Dc jdk_2529_method_4_code 16 (.iload_n 2) 1 17 := ⟨by decide +kernel, rfl⟩
theorem d11_17 : Dc jdk_2529_method_4_code 17 (.iadd) 1 18 := ⟨by decide +kernel, rfl⟩
theorem d11_18 : Db jdk_2529_method_4_code 18 (.if_icmp .ge 28) 28 21 46 := ⟨by decide +kernel, rfl, by decide, by decide⟩
theorem d11_21 : Dc jdk_2529_method_4_code 21 (.iload_n 2) 1 22 := ⟨by decide +kernel, rfl⟩
theorem d11_22 : Dc jdk_2529_method_4_code 22 (.iconst 1) 1 23 := ⟨by decide +kernel, rfl⟩
theorem d11_23 : Dc jdk_2529_method_4_code 23 (.iand) 1 24 := ⟨by decide +kernel, rfl⟩
theorem d11_24 : Db jdk_2529_method_4_code 24 (.ifCond .le 22) 22 27 46 := ⟨by decide +kernel, rfl, by decide, by decide⟩
theorem d11_46 : Dc jdk_2529_method_4_code 46 (.iload 6) 2 48 := ⟨by decide +kernel, rfl⟩
theorem d11_48 : Dc jdk_2529_method_4_code 48 (.bipush 44) 2 50 := ⟨by decide +kernel, rfl⟩
theorem d11_50 : Db jdk_2529_method_4_code 50 (.if_icmp .ge 11) 11 53 61 := ⟨by decide +kernel, rfl, by decide, by decide⟩
theorem d11_53 : Dc jdk_2529_method_4_code 53 (.aload_n 1) 1 54 := ⟨by decide +kernel, rfl⟩
theorem d11_54 : Dc jdk_2529_method_4_code 54 (.iload_n 3) 1 55 := ⟨by decide +kernel, rfl⟩
theorem d11_55 : Dc jdk_2529_method_4_code 55 (.iload 4) 2 57 := ⟨by decide +kernel, rfl⟩
theorem d11_57 : Dc jdk_2529_method_4_code 57 (.invokestatic 34) 3 60 := ⟨by decide +kernel, rfl⟩
theorem d11_60 : Dc jdk_2529_method_4_code 60 (.return_) 1 61 := ⟨by decide +kernel, rfl⟩
theorem d12_0 : Dc jdk_2529_method_3_code 0 (.iload_n 3) 1 1 := ⟨by decide +kernel, rfl⟩
theorem d12_1 : Dc jdk_2529_method_3_code 1 (.iload_n 2) 1 2 := ⟨by decide +kernel, rfl⟩
theorem d12_2 : Dc jdk_2529_method_3_code 2 (.isub) 1 3 := ⟨by decide +kernel, rfl⟩
theorem d12_3 : Dc jdk_2529_method_3_code 3 (.istore 4) 2 5 := ⟨by decide +kernel, rfl⟩
theorem d12_5 : Dc jdk_2529_method_3_code 5 (.iload_n 1) 1 6 := ⟨by decide +kernel, rfl⟩
theorem d12_6 : Dc jdk_2529_method_3_code 6 (.iconst 1) 1 7 := ⟨by decide +kernel, rfl⟩
theorem d12_7 : Db jdk_2529_method_3_code 7 (.if_icmp .le 61) 61 10 68 := ⟨by decide +kernel, rfl, by decide, by decide⟩
theorem d12_68 : Dc jdk_2529_method_3_code 68 (.aconst_null) 1 69 := ⟨by decide +kernel, rfl⟩
theorem d12_69 : Dc jdk_2529_method_3_code 69 (.aload_n 0) 1 70 := ⟨by decide +kernel, rfl⟩
theorem d12_70 : Dc jdk_2529_method_3_code 70 (.iconst 0) 1 71 := ⟨by decide +kernel, rfl⟩
theorem d12_71 : Dc jdk_2529_method_3_code 71 (.iload_n 2) 1 72 := ⟨by decide +kernel, rfl⟩
theorem d12_72 : Dc jdk_2529_method_3_code 72 (.iload_n 3) 1 73 := ⟨by decide +kernel, rfl⟩
theorem d12_73 : Dc jdk_2529_method_3_code 73 (.invokestatic 26) 3 76 := ⟨by decide +kernel, rfl⟩
theorem d12_76 : Dc jdk_2529_method_3_code 76 (.return_) 1 77 := ⟨by decide +kernel, rfl⟩
theorem d13_0 : Dc jdk_65_method_3_code 0 (.aload_n 0) 1 1 := ⟨by decide +kernel, rfl⟩
theorem d13_1 : Dc jdk_65_method_3_code 1 (.arraylength) 1 2 := ⟨by decide +kernel, rfl⟩
theorem d13_2 : Dc jdk_65_method_3_code 2 (.iload_n 1) 1 3 := ⟨by decide +kernel, rfl⟩
theorem d13_3 : Dc jdk_65_method_3_code 3 (.iload_n 2) 1 4 := ⟨by decide +kernel, rfl⟩
theorem d13_4 : Dc jdk_65_method_3_code 4 (.invokestatic 13) 3 7 := ⟨by decide +kernel, rfl⟩
theorem d13_7 : Dc jdk_65_method_3_code 7 (.aload_n 0) 1 8 := ⟨by decide +kernel, rfl⟩
theorem d13_8 : Dc jdk_65_method_3_code 8 (.iconst 0) 1 9 := ⟨by decide +kernel, rfl⟩
theorem d13_9 : Dc jdk_65_method_3_code 9 (.iload_n 1) 1 10 := ⟨by decide +kernel, rfl⟩
theorem d13_10 : Dc jdk_65_method_3_code 10 (.iload_n 2) 1 11 := ⟨by decide +kernel, rfl⟩
theorem d13_11 : Dc jdk_65_method_3_code 11 (.invokestatic 7) 3 14 := ⟨by decide +kernel, rfl⟩
theorem d13_14 : Dc jdk_65_method_3_code 14 (.return_) 1 15 := ⟨by decide +kernel, rfl⟩
theorem d14_0 : Dc prog_72_method_7_code 0 (.aload_n 0) 1 1 := ⟨by decide +kernel, rfl⟩
theorem d14_1 : Dc prog_72_method_7_code 1 (.getfield 7) 3 4 := ⟨by decide +kernel, rfl⟩
theorem d14_4 : Dc prog_72_method_7_code 4 (.iconst 0) 1 5 := ⟨by decide +kernel, rfl⟩
theorem d14_5 : Dc prog_72_method_7_code 5 (.aload_n 0) 1 6 := ⟨by decide +kernel, rfl⟩
theorem d14_6 : Dc prog_72_method_7_code 6 (.getfield 13) 3 9 := ⟨by decide +kernel, rfl⟩
theorem d14_9 : Dc prog_72_method_7_code 9 (.invokestatic 23) 3 12 := ⟨by decide +kernel, rfl⟩
theorem d14_12 : Dc prog_72_method_7_code 12 (.return_) 1 13 := ⟨by decide +kernel, rfl⟩
theorem d10_12 : Dc jdk_2529_method_6_code 12 (.aload_n 0) 1 13 := ⟨by decide +kernel, rfl⟩
theorem d10_13 : Dc jdk_2529_method_6_code 13 (.iload 4) 2 15 := ⟨by decide +kernel, rfl⟩
theorem d10_15 : Dc jdk_2529_method_6_code 15 (.dup) 1 16 := ⟨by decide +kernel, rfl⟩
theorem d10_16 : Dc jdk_2529_method_6_code 16 (.istore_n 3) 1 17 := ⟨by decide +kernel, rfl⟩
theorem d10_17 : Dc jdk_2529_method_6_code 17 (.iaload) 1 18 := ⟨by decide +kernel, rfl⟩
theorem d10_18 : Dc jdk_2529_method_6_code 18 (.istore 5) 2 20 := ⟨by decide +kernel, rfl⟩
theorem d10_20 : Dc jdk_2529_method_6_code 20 (.iload 5) 2 22 := ⟨by decide +kernel, rfl⟩
theorem d10_22 : Dc jdk_2529_method_6_code 22 (.aload_n 0) 1 23 := ⟨by decide +kernel, rfl⟩
theorem d10_23 : Dc jdk_2529_method_6_code 23 (.iload_n 3) 1 24 := ⟨by decide +kernel, rfl⟩
theorem d10_24 : Dc jdk_2529_method_6_code 24 (.iconst 1) 1 25 := ⟨by decide +kernel, rfl⟩
theorem d10_25 : Dc jdk_2529_method_6_code 25 (.isub) 1 26 := ⟨by decide +kernel, rfl⟩
theorem d10_26 : Dc jdk_2529_method_6_code 26 (.iaload) 1 27 := ⟨by decide +kernel, rfl⟩
theorem d10_27 : Db jdk_2529_method_6_code 27 (.if_icmp .ge 37) 37 30 64 := ⟨by decide +kernel, rfl, by decide, by decide⟩
theorem d10_30 : Dc jdk_2529_method_6_code 30 (.iinc 3 (-1)) 3 33 := ⟨by decide +kernel, rfl⟩
theorem d10_33 : Dc jdk_2529_method_6_code 33 (.iload_n 3) 1 34 := ⟨by decide +kernel, rfl⟩
theorem d10_34 : Dc jdk_2529_method_6_code 34 (.iload_n 1) 1 35 := ⟨by decide +kernel, rfl⟩
theorem d10_35 : Db jdk_2529_method_6_code 35 (.if_icmp .lt 22) 22 38 57 := ⟨by decide +kernel, rfl, by decide, by decide⟩
theorem d10_38 : Dc jdk_2529_method_6_code 38 (.iload 5) 2 40 := ⟨by decide +kernel, rfl⟩
theorem d10_40 : Dc jdk_2529_method_6_code 40 (.aload_n 0) 1 41 := ⟨by decide +kernel, rfl⟩
theorem d10_41 : Dc jdk_2529_method_6_code 41 (.iload_n 3) 1 42 := ⟨by decide +kernel, rfl⟩
theorem d10_42 : Dc jdk_2529_method_6_code 42 (.iaload) 1 43 := ⟨by decide +kernel, rfl⟩
theorem d10_43 : Db jdk_2529_method_6_code 43 (.if_icmp .ge 14) 14 46 57 := ⟨by decide +kernel, rfl, by decide, by decide⟩
theorem d10_46 : Dc jdk_2529_method_6_code 46 (.aload_n 0) 1 47 := ⟨by decide +kernel, rfl⟩
theorem d10_47 : Dc jdk_2529_method_6_code 47 (.iload_n 3) 1 48 := ⟨by decide +kernel, rfl⟩
theorem d10_48 : Dc jdk_2529_method_6_code 48 (.iconst 1) 1 49 := ⟨by decide +kernel, rfl⟩
theorem d10_49 : Dc jdk_2529_method_6_code 49 (.iadd) 1 50 := ⟨by decide +kernel, rfl⟩
theorem d10_50 : Dc jdk_2529_method_6_code 50 (.aload_n 0) 1 51 := ⟨by decide +kernel, rfl⟩
theorem d10_51 : Dc jdk_2529_method_6_code 51 (.iload_n 3) 1 52 := ⟨by decide +kernel, rfl⟩
theorem d10_52 : Dc jdk_2529_method_6_code 52 (.iaload) 1 53 := ⟨by decide +kernel, rfl⟩
theorem d10_53 : Dc jdk_2529_method_6_code 53 (.iastore) 1 54 := ⟨by decide +kernel, rfl⟩
theorem d10_54 : Db jdk_2529_method_6_code 54 (.goto (-24)) (-24) 57 30 := ⟨by decide +kernel, rfl, by decide, by decide⟩
theorem d10_57 : Dc jdk_2529_method_6_code 57 (.aload_n 0) 1 58 := ⟨by decide +kernel, rfl⟩
theorem d10_58 : Dc jdk_2529_method_6_code 58 (.iload_n 3) 1 59 := ⟨by decide +kernel, rfl⟩
theorem d10_59 : Dc jdk_2529_method_6_code 59 (.iconst 1) 1 60 := ⟨by decide +kernel, rfl⟩
theorem d10_60 : Dc jdk_2529_method_6_code 60 (.iadd) 1 61 := ⟨by decide +kernel, rfl⟩
theorem d10_61 : Dc jdk_2529_method_6_code 61 (.iload 5) 2 63 := ⟨by decide +kernel, rfl⟩
theorem d10_63 : Dc jdk_2529_method_6_code 63 (.iastore) 1 64 := ⟨by decide +kernel, rfl⟩
theorem d10_64 : Db jdk_2529_method_6_code 64 (.goto (-61)) (-61) 67 3 := ⟨by decide +kernel, rfl, by decide, by decide⟩
theorem d15_0 : Dc prog_72_method_8_code 0 (.aload_n 0) 1 1 := ⟨by decide +kernel, rfl⟩
theorem d15_1 : Dc prog_72_method_8_code 1 (.getfield 7) 3 4 := ⟨by decide +kernel, rfl⟩
theorem d15_4 : Dc prog_72_method_8_code 4 (.aload_n 0) 1 5 := ⟨by decide +kernel, rfl⟩
theorem d15_5 : Dc prog_72_method_8_code 5 (.getfield 13) 3 8 := ⟨by decide +kernel, rfl⟩
theorem d15_8 : Dc prog_72_method_8_code 8 (.invokestatic 17) 3 11 := ⟨by decide +kernel, rfl⟩
theorem d15_11 : Dc prog_72_method_8_code 11 (.areturn) 1 12 := ⟨by decide +kernel, rfl⟩
theorem d16_0 : Dc prog_72_method_6_code 0 (.aload_n 0) 1 1 := ⟨by decide +kernel, rfl⟩
theorem d16_1 : Dc prog_72_method_6_code 1 (.iconst 0) 1 2 := ⟨by decide +kernel, rfl⟩
theorem d16_2 : Dc prog_72_method_6_code 2 (.putfield 13) 3 5 := ⟨by decide +kernel, rfl⟩
theorem d16_5 : Dc prog_72_method_6_code 5 (.return_) 1 6 := ⟨by decide +kernel, rfl⟩
theorem d17_0 : Dc jdk_65_method_149_code 0 (.aload_n 0) 1 1 := ⟨by decide +kernel, rfl⟩
theorem d17_1 : Db jdk_65_method_149_code 1 (.ifnonnull 5) 5 4 6 := ⟨by decide +kernel, rfl, by decide, by decide⟩
theorem d17_6 : Dc jdk_65_method_149_code 6 (.iconst 1) 1 7 := ⟨by decide +kernel, rfl⟩
theorem d17_7 : Dc jdk_65_method_149_code 7 (.istore_n 1) 1 8 := ⟨by decide +kernel, rfl⟩
theorem d17_8 : Dc jdk_65_method_149_code 8 (.aload_n 0) 1 9 := ⟨by decide +kernel, rfl⟩
theorem d17_9 : Dc jdk_65_method_149_code 9 (.astore_n 2) 1 10 := ⟨by decide +kernel, rfl⟩
theorem d17_10 : Dc jdk_65_method_149_code 10 (.aload_n 2) 1 11 := ⟨by decide +kernel, rfl⟩
theorem d17_11 : Dc jdk_65_method_149_code 11 (.arraylength) 1 12 := ⟨by decide +kernel, rfl⟩
theorem d17_12 : Dc jdk_65_method_149_code 12 (.istore_n 3) 1 13 := ⟨by decide +kernel, rfl⟩
theorem d17_13 : Dc jdk_65_method_149_code 13 (.iconst 0) 1 14 := ⟨by decide +kernel, rfl⟩
theorem d17_14 : Dc jdk_65_method_149_code 14 (.istore 4) 2 16 := ⟨by decide +kernel, rfl⟩
theorem d17_16 : Dc jdk_65_method_149_code 16 (.iload 4) 2 18 := ⟨by decide +kernel, rfl⟩
theorem d17_18 : Dc jdk_65_method_149_code 18 (.iload_n 3) 1 19 := ⟨by decide +kernel, rfl⟩
theorem d17_19 : Db jdk_65_method_149_code 19 (.if_icmp .ge 34) 34 22 53 := ⟨by decide +kernel, rfl, by decide, by decide⟩
theorem d17_22 : Dc jdk_65_method_149_code 22 (.aload_n 2) 1 23 := ⟨by decide +kernel, rfl⟩
theorem d17_23 : Dc jdk_65_method_149_code 23 (.iload 4) 2 25 := ⟨by decide +kernel, rfl⟩
theorem d17_25 : Dc jdk_65_method_149_code 25 (.laload) 1 26 := ⟨by decide +kernel, rfl⟩
theorem d17_26 : Dc jdk_65_method_149_code 26 (.lstore 5) 2 28 := ⟨by decide +kernel, rfl⟩
theorem d17_28 : Dc jdk_65_method_149_code 28 (.lload 5) 2 30 := ⟨by decide +kernel, rfl⟩
theorem d17_30 : Dc jdk_65_method_149_code 30 (.lload 5) 2 32 := ⟨by decide +kernel, rfl⟩
theorem d17_32 : Dc jdk_65_method_149_code 32 (.bipush 32) 2 34 := ⟨by decide +kernel, rfl⟩
theorem d17_34 : Dc jdk_65_method_149_code 34 (.lushr) 1 35 := ⟨by decide +kernel, rfl⟩
theorem d17_35 : Dc jdk_65_method_149_code 35 (.lxor) 1 36 := ⟨by decide +kernel, rfl⟩
theorem d17_36 : Dc jdk_65_method_149_code 36 (.l2i) 1 37 := ⟨by decide +kernel, rfl⟩
theorem d17_37 : Dc jdk_65_method_149_code 37 (.istore 7) 2 39 := ⟨by decide +kernel, rfl⟩
theorem d17_39 : Dc jdk_65_method_149_code 39 (.bipush 31) 2 41 := ⟨by decide +kernel, rfl⟩
theorem d17_41 : Dc jdk_65_method_149_code 41 (.iload_n 1) 1 42 := ⟨by decide +kernel, rfl⟩
theorem d17_42 : Dc jdk_65_method_149_code 42 (.imul) 1 43 := ⟨by decide +kernel, rfl⟩
theorem d17_43 : Dc jdk_65_method_149_code 43 (.iload 7) 2 45 := ⟨by decide +kernel, rfl⟩
theorem d17_45 : Dc jdk_65_method_149_code 45 (.iadd) 1 46 := ⟨by decide +kernel, rfl⟩
theorem d17_46 : Dc jdk_65_method_149_code 46 (.istore_n 1) 1 47 := ⟨by decide +kernel, rfl⟩
theorem d17_47 : Dc jdk_65_method_149_code 47 (.iinc 4 1) 3 50 := ⟨by decide +kernel, rfl⟩
theorem d17_50 : Db jdk_65_method_149_code 50 (.goto (-34)) (-34) 53 16 := ⟨by decide +kernel, rfl, by decide, by decide⟩
theorem d17_53 : Dc jdk_65_method_149_code 53 (.iload_n 1) 1 54 := ⟨by decide +kernel, rfl⟩
theorem d17_54 : Dc jdk_65_method_149_code 54 (.ireturn) 1 55 := ⟨by decide +kernel, rfl⟩
theorem d18_0 : Dc jdk_48_method_9_code 0 (.iload_n 2) 1 1 := ⟨by decide +kernel, rfl⟩
theorem d18_1 : Dc jdk_48_method_9_code 1 (.iload_n 3) 1 2 := ⟨by decide +kernel, rfl⟩
theorem d18_2 : Dc jdk_48_method_9_code 2 (.iadd) 1 3 := ⟨by decide +kernel, rfl⟩
theorem d18_3 : Dc jdk_48_method_9_code 3 (.istore 4) 2 5 := ⟨by decide +kernel, rfl⟩
theorem d18_5 : Dc jdk_48_method_9_code 5 (.iload_n 2) 1 6 := ⟨by decide +kernel, rfl⟩
theorem d18_6 : Dc jdk_48_method_9_code 6 (.istore 5) 2 8 := ⟨by decide +kernel, rfl⟩
theorem d18_8 : Dc jdk_48_method_9_code 8 (.iload 5) 2 10 := ⟨by decide +kernel, rfl⟩
theorem d18_10 : Dc jdk_48_method_9_code 10 (.iload 4) 2 12 := ⟨by decide +kernel, rfl⟩
theorem d18_12 : Db jdk_48_method_9_code 12 (.if_icmp .ge 19) 19 15 31 := ⟨by decide +kernel, rfl, by decide, by decide⟩
theorem d18_15 : Dc jdk_48_method_9_code 15 (.bipush 31) 2 17 := ⟨by decide +kernel, rfl⟩
theorem d18_17 : Dc jdk_48_method_9_code 17 (.iload_n 0) 1 18 := ⟨by decide +kernel, rfl⟩
theorem d18_18 : Dc jdk_48_method_9_code 18 (.imul) 1 19 := ⟨by decide +kernel, rfl⟩
theorem d18_19 : Dc jdk_48_method_9_code 19 (.aload_n 1) 1 20 := ⟨by decide +kernel, rfl⟩
theorem d18_20 : Dc jdk_48_method_9_code 20 (.iload 5) 2 22 := ⟨by decide +kernel, rfl⟩
theorem d18_22 : Dc jdk_48_method_9_code 22 (.iaload) 1 23 := ⟨by decide +kernel, rfl⟩
theorem d18_23 : Dc jdk_48_method_9_code 23 (.iadd) 1 24 := ⟨by decide +kernel, rfl⟩
theorem d18_24 : Dc jdk_48_method_9_code 24 (.istore_n 0) 1 25 := ⟨by decide +kernel, rfl⟩
theorem d18_25 : Dc jdk_48_method_9_code 25 (.iinc 5 1) 3 28 := ⟨by decide +kernel, rfl⟩
theorem d18_28 : Db jdk_48_method_9_code 28 (.goto (-20)) (-20) 31 8 := ⟨by decide +kernel, rfl, by decide, by decide⟩
theorem d18_31 : Dc jdk_48_method_9_code 31 (.iload_n 0) 1 32 := ⟨by decide +kernel, rfl⟩
theorem d18_32 : Dc jdk_48_method_9_code 32 (.ireturn) 1 33 := ⟨by decide +kernel, rfl⟩
theorem d19_0 : Dc jdk_48_method_4_code 0 (.iload 4) 2 2 := ⟨by decide +kernel, rfl⟩
theorem d19_116 : Dc jdk_48_method_4_code 116 (.iload_n 3) 1 117 := ⟨by decide +kernel, rfl⟩
theorem d19_117 : Dc jdk_48_method_4_code 117 (.aload_n 0) 1 118 := ⟨by decide +kernel, rfl⟩
theorem d19_118 : Dc jdk_48_method_4_code 118 (.checkcast 82) 3 121 := ⟨by decide +kernel, rfl⟩
theorem d19_121 : Dc jdk_48_method_4_code 121 (.iload_n 1) 1 122 := ⟨by decide +kernel, rfl⟩
theorem d19_122 : Dc jdk_48_method_4_code 122 (.iload_n 2) 1 123 := ⟨by decide +kernel, rfl⟩
theorem d19_123 : Dc jdk_48_method_4_code 123 (.invokestatic 84) 3 126 := ⟨by decide +kernel, rfl⟩
theorem d19_126 : Db jdk_48_method_4_code 126 (.goto 31) 31 129 157 := ⟨by decide +kernel, rfl, by decide, by decide⟩
theorem d19_157 : Dc jdk_48_method_4_code 157 (.ireturn) 1 158 := ⟨by decide +kernel, rfl⟩
theorem d20_0 : Dc jdk_65_method_150_code 0 (.aload_n 0) 1 1 := ⟨by decide +kernel, rfl⟩
theorem d20_1 : Db jdk_65_method_150_code 1 (.ifnonnull 5) 5 4 6 := ⟨by decide +kernel, rfl, by decide, by decide⟩
theorem d20_6 : Dc jdk_65_method_150_code 6 (.aload_n 0) 1 7 := ⟨by decide +kernel, rfl⟩
theorem d20_7 : Dc jdk_65_method_150_code 7 (.arraylength) 1 8 := ⟨by decide +kernel, rfl⟩
theorem d20_49 : Dc jdk_65_method_150_code 49 (.aload_n 0) 1 50 := ⟨by decide +kernel, rfl⟩
theorem d20_50 : Dc jdk_65_method_150_code 50 (.iconst 0) 1 51 := ⟨by decide +kernel, rfl⟩
theorem d20_51 : Dc jdk_65_method_150_code 51 (.aload_n 0) 1 52 := ⟨by decide +kernel, rfl⟩
theorem d20_52 : Dc jdk_65_method_150_code 52 (.arraylength) 1 53 := ⟨by decide +kernel, rfl⟩
theorem d20_53 : Dc jdk_65_method_150_code 53 (.iconst 1) 1 54 := ⟨by decide +kernel, rfl⟩
theorem d20_54 : Dc jdk_65_method_150_code 54 (.bipush 10) 2 56 := ⟨by decide +kernel, rfl⟩
theorem d20_56 : Dc jdk_65_method_150_code 56 (.invokestatic 379) 3 59 := ⟨by decide +kernel, rfl⟩
theorem d20_59 : Dc jdk_65_method_150_code 59 (.ireturn) 1 60 := ⟨by decide +kernel, rfl⟩
theorem d21_0 : Dc prog_217_method_1_code 0 (.aload_n 0) 1 1 := ⟨by decide +kernel, rfl⟩
theorem d21_1 : Dc prog_217_method_1_code 1 (.invokespecial 1) 3 4 := ⟨by decide +kernel, rfl⟩
theorem d21_4 : Dc prog_217_method_1_code 4 (.aload_n 1) 1 5 := ⟨by decide +kernel, rfl⟩
theorem d21_5 : Dc prog_217_method_1_code 5 (.arraylength) 1 6 := ⟨by decide +kernel, rfl⟩
theorem d21_6 : Dc prog_217_method_1_code 6 (.istore_n 2) 1 7 := ⟨by decide +kernel, rfl⟩
theorem d21_7 : Dc prog_217_method_1_code 7 (.iload_n 2) 1 8 := ⟨by decide +kernel, rfl⟩
theorem d21_8 : Db prog_217_method_1_code 8 (.ifCond .ne 7) 7 11 15 := ⟨by decide +kernel, rfl, by decide, by decide⟩
theorem d21_15 : Dc prog_217_method_1_code 15 (.aload_n 1) 1 16 := ⟨by decide +kernel, rfl⟩
theorem d21_16 : Dc prog_217_method_1_code 16 (.iload_n 2) 1 17 := ⟨by decide +kernel, rfl⟩
theorem d21_17 : Dc prog_217_method_1_code 17 (.iconst 1) 1 18 := ⟨by decide +kernel, rfl⟩
theorem d21_18 : Dc prog_217_method_1_code 18 (.isub) 1 19 := ⟨by decide +kernel, rfl⟩
theorem d21_19 : Dc prog_217_method_1_code 19 (.iaload) 1 20 := ⟨by decide +kernel, rfl⟩
theorem d21_20 : Dc prog_217_method_1_code 20 (.aload_n 1) 1 21 := ⟨by decide +kernel, rfl⟩
theorem d21_21 : Dc prog_217_method_1_code 21 (.iconst 0) 1 22 := ⟨by decide +kernel, rfl⟩
theorem d21_22 : Dc prog_217_method_1_code 22 (.iaload) 1 23 := ⟨by decide +kernel, rfl⟩
theorem d21_23 : Dc prog_217_method_1_code 23 (.isub) 1 24 := ⟨by decide +kernel, rfl⟩
theorem d21_24 : Dc prog_217_method_1_code 24 (.iconst 1) 1 25 := ⟨by decide +kernel, rfl⟩
theorem d21_25 : Dc prog_217_method_1_code 25 (.iadd) 1 26 := ⟨by decide +kernel, rfl⟩
theorem d21_26 : Dc prog_217_method_1_code 26 (.istore_n 3) 1 27 := ⟨by decide +kernel, rfl⟩
theorem d21_27 : Dc prog_217_method_1_code 27 (.aload_n 0) 1 28 := ⟨by decide +kernel, rfl⟩
theorem d21_28 : Dc prog_217_method_1_code 28 (.iload_n 2) 1 29 := ⟨by decide +kernel, rfl⟩
theorem d21_29 : Db prog_217_method_1_code 29 (.ifCond .ne 7) 7 32 36 := ⟨by decide +kernel, rfl, by decide, by decide⟩
theorem d21_36 : Dc prog_217_method_1_code 36 (.aload_n 1) 1 37 := ⟨by decide +kernel, rfl⟩
theorem d21_37 : Dc prog_217_method_1_code 37 (.iconst 0) 1 38 := ⟨by decide +kernel, rfl⟩
theorem d21_38 : Dc prog_217_method_1_code 38 (.iaload) 1 39 := ⟨by decide +kernel, rfl⟩
theorem d21_39 : Dc prog_217_method_1_code 39 (.putfield 7) 3 42 := ⟨by decide +kernel, rfl⟩
theorem d21_42 : Dc prog_217_method_1_code 42 (.iload_n 3) 1 43 := ⟨by decide +kernel, rfl⟩
theorem d21_43 : Dc prog_217_method_1_code 43 (.bipush 32) 2 45 := ⟨by decide +kernel, rfl⟩
theorem d21_45 : Dc prog_217_method_1_code 45 (.idiv) 1 46 := ⟨by decide +kernel, rfl⟩
theorem d21_46 : Dc prog_217_method_1_code 46 (.iload_n 2) 1 47 := ⟨by decide +kernel, rfl⟩
theorem d21_47 : Db prog_217_method_1_code 47 (.if_icmp .ge 113) 113 50 160 := ⟨by decide +kernel, rfl, by decide, by decide⟩
theorem d21_50 : Dc prog_217_method_1_code 50 (.aload_n 0) 1 51 := ⟨by decide +kernel, rfl⟩
theorem d21_51 : Dc prog_217_method_1_code 51 (.aconst_null) 1 52 := ⟨by decide +kernel, rfl⟩
theorem d21_52 : Dc prog_217_method_1_code 52 (.putfield 15) 3 55 := ⟨by decide +kernel, rfl⟩
theorem d21_55 : Dc prog_217_method_1_code 55 (.aload_n 0) 1 56 := ⟨by decide +kernel, rfl⟩
theorem d21_56 : Dc prog_217_method_1_code 56 (.iload_n 3) 1 57 := ⟨by decide +kernel, rfl⟩
theorem d21_57 : Dc prog_217_method_1_code 57 (.bipush 64) 2 59 := ⟨by decide +kernel, rfl⟩
theorem d21_59 : Dc prog_217_method_1_code 59 (.iadd) 1 60 := ⟨by decide +kernel, rfl⟩
theorem d21_60 : Dc prog_217_method_1_code 60 (.iconst 1) 1 61 := ⟨by decide +kernel, rfl⟩
theorem d21_61 : Dc prog_217_method_1_code 61 (.isub) 1 62 := ⟨by decide +kernel, rfl⟩
theorem d21_62 : Dc prog_217_method_1_code 62 (.bipush 64) 2 64 := ⟨by decide +kernel, rfl⟩
theorem d21_64 : Dc prog_217_method_1_code 64 (.idiv) 1 65 := ⟨by decide +kernel, rfl⟩
theorem d21_65 : Dc prog_217_method_1_code 65 (.newarray .long) 2 67 := ⟨by decide +kernel, rfl⟩
theorem d21_67 : Dc prog_217_method_1_code 67 (.putfield 21) 3 70 := ⟨by decide +kernel, rfl⟩
theorem d21_70 : Dc prog_217_method_1_code 70 (.aload_n 1) 1 71 := ⟨by decide +kernel, rfl⟩
theorem d21_71 : Dc prog_217_method_1_code 71 (.astore 4) 2 73 := ⟨by decide +kernel, rfl⟩
theorem d21_73 : Dc prog_217_method_1_code 73 (.aload 4) 2 75 := ⟨by decide +kernel, rfl⟩
theorem d21_75 : Dc prog_217_method_1_code 75 (.arraylength) 1 76 := ⟨by decide +kernel, rfl⟩
theorem d21_76 : Dc prog_217_method_1_code 76 (.istore 5) 2 78 := ⟨by decide +kernel, rfl⟩
theorem d21_78 : Dc prog_217_method_1_code 78 (.iconst 0) 1 79 := ⟨by decide +kernel, rfl⟩
theorem d21_79 : Dc prog_217_method_1_code 79 (.istore 6) 2 81 := ⟨by decide +kernel, rfl⟩
theorem d21_81 : Dc prog_217_method_1_code 81 (.iload 6) 2 83 := ⟨by decide +kernel, rfl⟩
theorem d21_83 : Dc prog_217_method_1_code 83 (.iload 5) 2 85 := ⟨by decide +kernel, rfl⟩
theorem d21_85 : Db prog_217_method_1_code 85 (.if_icmp .ge 45) 45 88 130 := ⟨by decide +kernel, rfl, by decide, by decide⟩
theorem d21_88 : Dc prog_217_method_1_code 88 (.aload 4) 2 90 := ⟨by decide +kernel, rfl⟩
theorem d21_90 : Dc prog_217_method_1_code 90 (.iload 6) 2 92 := ⟨by decide +kernel, rfl⟩
theorem d21_92 : Dc prog_217_method_1_code 92 (.iaload) 1 93 := ⟨by decide +kernel, rfl⟩
theorem d21_93 : Dc prog_217_method_1_code 93 (.istore 7) 2 95 := ⟨by decide +kernel, rfl⟩
theorem d21_95 : Dc prog_217_method_1_code 95 (.iload 7) 2 97 := ⟨by decide +kernel, rfl⟩
theorem d21_97 : Dc prog_217_method_1_code 97 (.aload_n 0) 1 98 := ⟨by decide +kernel, rfl⟩
theorem d21_98 : Dc prog_217_method_1_code 98 (.getfield 7) 3 101 := ⟨by decide +kernel, rfl⟩
theorem d21_101 : Dc prog_217_method_1_code 101 (.isub) 1 102 := ⟨by decide +kernel, rfl⟩
theorem d21_102 : Dc prog_217_method_1_code 102 (.istore 8) 2 104 := ⟨by decide +kernel, rfl⟩
theorem d21_104 : Dc prog_217_method_1_code 104 (.aload_n 0) 1 105 := ⟨by decide +kernel, rfl⟩
theorem d21_105 : Dc prog_217_method_1_code 105 (.getfield 21) 3 108 := ⟨by decide +kernel, rfl⟩
theorem d21_108 : Dc prog_217_method_1_code 108 (.iload 8) 2 110 := ⟨by decide +kernel, rfl⟩
theorem d21_110 : Dc prog_217_method_1_code 110 (.bipush 64) 2 112 := ⟨by decide +kernel, rfl⟩
theorem d21_112 : Dc prog_217_method_1_code 112 (.idiv) 1 113 := ⟨by decide +kernel, rfl⟩
theorem d21_113 : Dc prog_217_method_1_code 113 (.dup2) 1 114 := ⟨by decide +kernel, rfl⟩
theorem d21_114 : Dc prog_217_method_1_code 114 (.laload) 1 115 := ⟨by decide +kernel, rfl⟩
theorem d21_115 : Dc prog_217_method_1_code 115 (.lconst 1) 1 116 := ⟨by decide +kernel, rfl⟩
theorem d21_116 : Dc prog_217_method_1_code 116 (.iload 8) 2 118 := ⟨by decide +kernel, rfl⟩
theorem d21_118 : Dc prog_217_method_1_code 118 (.bipush 64) 2 120 := ⟨by decide +kernel, rfl⟩
theorem d21_120 : Dc prog_217_method_1_code 120 (.irem) 1 121 := ⟨by decide +kernel, rfl⟩
theorem d21_121 : Dc prog_217_method_1_code 121 (.lshl) 1 122 := ⟨by decide +kernel, rfl⟩
theorem d21_122 : Dc prog_217_method_1_code 122 (.lor) 1 123 := ⟨by decide +kernel, rfl⟩
theorem d21_123 : Dc prog_217_method_1_code 123 (.lastore) 1 124 := ⟨by decide +kernel, rfl⟩
theorem d21_124 : Dc prog_217_method_1_code 124 (.iinc 6 1) 3 127 := ⟨by decide +kernel, rfl⟩
theorem d21_127 : Db prog_217_method_1_code 127 (.goto (-46)) (-46) 130 81 := ⟨by decide +kernel, rfl, by decide, by decide⟩
theorem d21_130 : Dc prog_217_method_1_code 130 (.aload_n 0) 1 131 := ⟨by decide +kernel, rfl⟩
theorem d21_131 : Dc prog_217_method_1_code 131 (.iload_n 3) 1 132 := ⟨by decide +kernel, rfl⟩
theorem d21_132 : Dc prog_217_method_1_code 132 (.bipush 32) 2 134 := ⟨by decide +kernel, rfl⟩
theorem d21_134 : Dc prog_217_method_1_code 134 (.idiv) 1 135 := ⟨by decide +kernel, rfl⟩
theorem d21_135 : Dc prog_217_method_1_code 135 (.putfield 25) 3 138 := ⟨by decide +kernel, rfl⟩
theorem d21_138 : Dc prog_217_method_1_code 138 (.aload_n 0) 1 139 := ⟨by decide +kernel, rfl⟩
theorem d21_139 : Dc prog_217_method_1_code 139 (.bipush 31) 2 141 := ⟨by decide +kernel, rfl⟩
theorem d21_141 : Dc prog_217_method_1_code 141 (.aload_n 0) 1 142 := ⟨by decide +kernel, rfl⟩
theorem d21_142 : Dc prog_217_method_1_code 142 (.getfield 7) 3 145 := ⟨by decide +kernel, rfl⟩
theorem d21_145 : Dc prog_217_method_1_code 145 (.imul) 1 146 := ⟨by decide +kernel, rfl⟩
theorem d21_146 : Dc prog_217_method_1_code 146 (.aload_n 0) 1 147 := ⟨by decide +kernel, rfl⟩
theorem d21_147 : Dc prog_217_method_1_code 147 (.getfield 21) 3 150 := ⟨by decide +kernel, rfl⟩
theorem d21_150 : Dc prog_217_method_1_code 150 (.invokestatic 28) 3 153 := ⟨by decide +kernel, rfl⟩
theorem d21_153 : Dc prog_217_method_1_code 153 (.iadd) 1 154 := ⟨by decide +kernel, rfl⟩
theorem d21_154 : Dc prog_217_method_1_code 154 (.putfield 34) 3 157 := ⟨by decide +kernel, rfl⟩
theorem d21_157 : Db prog_217_method_1_code 157 (.goto 29) 29 160 186 := ⟨by decide +kernel, rfl, by decide, by decide⟩
theorem d21_186 : Dc prog_217_method_1_code 186 (.return_) 1 187 := ⟨by decide +kernel, rfl⟩
theorem d21_160 : Dc prog_217_method_1_code 160 (.aload_n 0) 1 161 := ⟨by decide +kernel, rfl⟩
theorem d21_161 : Dc prog_217_method_1_code 161 (.aload_n 1) 1 162 := ⟨by decide +kernel, rfl⟩
theorem d21_162 : Dc prog_217_method_1_code 162 (.putfield 15) 3 165 := ⟨by decide +kernel, rfl⟩
theorem d21_165 : Dc prog_217_method_1_code 165 (.aload_n 0) 1 166 := ⟨by decide +kernel, rfl⟩
theorem d21_166 : Dc prog_217_method_1_code 166 (.aconst_null) 1 167 := ⟨by decide +kernel, rfl⟩
theorem d21_167 : Dc prog_217_method_1_code 167 (.putfield 21) 3 170 := ⟨by decide +kernel, rfl⟩
theorem d21_170 : Dc prog_217_method_1_code 170 (.aload_n 0) 1 171 := ⟨by decide +kernel, rfl⟩
theorem d21_171 : Dc prog_217_method_1_code 171 (.iload_n 2) 1 172 := ⟨by decide +kernel, rfl⟩
theorem d21_172 : Dc prog_217_method_1_code 172 (.putfield 25) 3 175 := ⟨by decide +kernel, rfl⟩
theorem d21_175 : Dc prog_217_method_1_code 175 (.aload_n 0) 1 176 := ⟨by decide +kernel, rfl⟩
theorem d21_176 : Dc prog_217_method_1_code 176 (.aload_n 0) 1 177 := ⟨by decide +kernel, rfl⟩
theorem d21_177 : Dc prog_217_method_1_code 177 (.getfield 15) 3 180 := ⟨by decide +kernel, rfl⟩
theorem d21_180 : Dc prog_217_method_1_code 180 (.invokestatic 37) 3 183 := ⟨by decide +kernel, rfl⟩
theorem d21_183 : Dc prog_217_method_1_code 183 (.putfield 34) 3 186 := ⟨by decide +kernel, rfl⟩
theorem d22_0 : Dc prog_218_method_4_code 0 (.aload_n 0) 1 1 := ⟨by decide +kernel, rfl⟩
theorem d22_1 : Dc prog_218_method_4_code 1 (.getfield 16) 3 4 := ⟨by decide +kernel, rfl⟩
theorem d22_4 : Dc prog_218_method_4_code 4 (.invokevirtual 42) 3 7 := ⟨by decide +kernel, rfl⟩
theorem d22_7 : Dc prog_218_method_4_code 7 (.aload_n 0) 1 8 := ⟨by decide +kernel, rfl⟩
theorem d22_8 : Dc prog_218_method_4_code 8 (.getfield 16) 3 11 := ⟨by decide +kernel, rfl⟩
theorem d22_11 : Dc prog_218_method_4_code 11 (.invokevirtual 45) 3 14 := ⟨by decide +kernel, rfl⟩
theorem d22_14 : Dc prog_218_method_4_code 14 (.astore_n 1) 1 15 := ⟨by decide +kernel, rfl⟩
theorem d22_15 : Dc prog_218_method_4_code 15 (.aload_n 1) 1 16 := ⟨by decide +kernel, rfl⟩
theorem d22_16 : Dc prog_218_method_4_code 16 (.astore_n 2) 1 17 := ⟨by decide +kernel, rfl⟩
theorem d22_17 : Dc prog_218_method_4_code 17 (.aload_n 2) 1 18 := ⟨by decide +kernel, rfl⟩
theorem d22_18 : Dc prog_218_method_4_code 18 (.arraylength) 1 19 := ⟨by decide +kernel, rfl⟩
theorem d22_19 : Dc prog_218_method_4_code 19 (.istore_n 3) 1 20 := ⟨by decide +kernel, rfl⟩
theorem d22_20 : Dc prog_218_method_4_code 20 (.iconst 0) 1 21 := ⟨by decide +kernel, rfl⟩
theorem d22_21 : Dc prog_218_method_4_code 21 (.istore 4) 2 23 := ⟨by decide +kernel, rfl⟩
theorem d22_23 : Dc prog_218_method_4_code 23 (.iload 4) 2 25 := ⟨by decide +kernel, rfl⟩
theorem d22_25 : Dc prog_218_method_4_code 25 (.iload_n 3) 1 26 := ⟨by decide +kernel, rfl⟩
theorem d22_26 : Db prog_218_method_4_code 26 (.if_icmp .ge 26) 26 29 52 := ⟨by decide +kernel, rfl, by decide, by decide⟩
theorem d22_29 : Dc prog_218_method_4_code 29 (.aload_n 2) 1 30 := ⟨by decide +kernel, rfl⟩
theorem d22_30 : Dc prog_218_method_4_code 30 (.iload 4) 2 32 := ⟨by decide +kernel, rfl⟩
theorem d22_32 : Dc prog_218_method_4_code 32 (.iaload) 1 33 := ⟨by decide +kernel, rfl⟩
theorem d22_33 : Dc prog_218_method_4_code 33 (.istore 5) 2 35 := ⟨by decide +kernel, rfl⟩
theorem d22_35 : Dc prog_218_method_4_code 35 (.aload_n 0) 1 36 := ⟨by decide +kernel, rfl⟩
theorem d22_36 : Dc prog_218_method_4_code 36 (.getfield 7) 3 39 := ⟨by decide +kernel, rfl⟩
theorem d22_39 : Dc prog_218_method_4_code 39 (.iload 5) 2 41 := ⟨by decide +kernel, rfl⟩
theorem d22_41 : Dc prog_218_method_4_code 41 (.bipush 64) 2 43 := ⟨by decide +kernel, rfl⟩
theorem d22_43 : Dc prog_218_method_4_code 43 (.idiv) 1 44 := ⟨by decide +kernel, rfl⟩
theorem d22_44 : Dc prog_218_method_4_code 44 (.lconst 0) 1 45 := ⟨by decide +kernel, rfl⟩
theorem d22_45 : Dc prog_218_method_4_code 45 (.lastore) 1 46 := ⟨by decide +kernel, rfl⟩
theorem d22_46 : Dc prog_218_method_4_code 46 (.iinc 4 1) 3 49 := ⟨by decide +kernel, rfl⟩
theorem d22_49 : Db prog_218_method_4_code 49 (.goto (-26)) (-26) 52 23 := ⟨by decide +kernel, rfl, by decide, by decide⟩
theorem d22_52 : Dc prog_218_method_4_code 52 (.aload_n 0) 1 53 := ⟨by decide +kernel, rfl⟩
theorem d22_53 : Dc prog_218_method_4_code 53 (.getfield 16) 3 56 := ⟨by decide +kernel, rfl⟩
theorem d22_56 : Dc prog_218_method_4_code 56 (.invokevirtual 49) 3 59 := ⟨by decide +kernel, rfl⟩
theorem d22_59 : Dc prog_218_method_4_code 59 (.new 52) 3 62 := ⟨by decide +kernel, rfl⟩
theorem d22_62 : Dc prog_218_method_4_code 62 (.dup) 1 63 := ⟨by decide +kernel, rfl⟩
theorem d22_63 : Dc prog_218_method_4_code 63 (.aload_n 1) 1 64 := ⟨by decide +kernel, rfl⟩
theorem d22_64 : Dc prog_218_method_4_code 64 (.invokespecial 54) 3 67 := ⟨by decide +kernel, rfl⟩
theorem d22_67 : Dc prog_218_method_4_code 67 (.areturn) 1 68 := ⟨by decide +kernel, rfl⟩
theorem d23_0 : Dc code 0 (.iload_n 0) 1 1 := ⟨by decide +kernel, rfl⟩
theorem d23_1 : Dc code 1 (.sipush 4095) 3 4 := ⟨by decide +kernel, rfl⟩
theorem d23_4 : Dc code 4 (.iand) 1 5 := ⟨by decide +kernel, rfl⟩
theorem d23_5 : Dc code 5 (.istore 5) 2 7 := ⟨by decide +kernel, rfl⟩
theorem d23_7 : Dc code 7 (.iload_n 1) 1 8 := ⟨by decide +kernel, rfl⟩
theorem d23_8 : Dc code 8 (.sipush 4095) 3 11 := ⟨by decide +kernel, rfl⟩
theorem d23_11 : Dc code 11 (.iand) 1 12 := ⟨by decide +kernel, rfl⟩
theorem d23_12 : Dc code 12 (.istore 6) 2 14 := ⟨by decide +kernel, rfl⟩
theorem d23_14 : Dc code 14 (.iload_n 2) 1 15 := ⟨by decide +kernel, rfl⟩
theorem d23_15 : Dc code 15 (.sipush 4095) 3 18 := ⟨by decide +kernel, rfl⟩
theorem d23_18 : Dc code 18 (.iand) 1 19 := ⟨by decide +kernel, rfl⟩
theorem d23_19 : Dc code 19 (.istore 7) 2 21 := ⟨by decide +kernel, rfl⟩
theorem d23_21 : Dc code 21 (.iload 4) 2 23 := ⟨by decide +kernel, rfl⟩
theorem d23_23 : Dc code 23 (.iconst 1) 1 24 := ⟨by decide +kernel, rfl⟩
theorem d23_24 : Dc code 24 (.iand) 1 25 := ⟨by decide +kernel, rfl⟩
theorem d23_35 : Dc code 35 (.iload 4) 2 37 := ⟨by decide +kernel, rfl⟩
theorem d23_37 : Dc code 37 (.iconst 1) 1 38 := ⟨by decide +kernel, rfl⟩
theorem d23_38 : Dc code 38 (.iushr) 1 39 := ⟨by decide +kernel, rfl⟩
theorem d23_39 : Dc code 39 (.iconst 3) 1 40 := ⟨by decide +kernel, rfl⟩
theorem d23_40 : Dc code 40 (.iand) 1 41 := ⟨by decide +kernel, rfl⟩
theorem d23_41 : Dc code 41 (.istore 9) 2 43 := ⟨by decide +kernel, rfl⟩
theorem d23_43 : Dc code 43 (.iload 9) 2 45 := ⟨by decide +kernel, rfl⟩
theorem d23_94 : Dc code 94 (.new 8) 3 97 := ⟨by decide +kernel, rfl⟩
theorem d23_97 : Dc code 97 (.dup) 1 98 := ⟨by decide +kernel, rfl⟩
theorem d23_98 : Dc code 98 (.invokespecial 10) 3 101 := ⟨by decide +kernel, rfl⟩
theorem d23_101 : Dc code 101 (.astore 11) 2 103 := ⟨by decide +kernel, rfl⟩
theorem d23_103 : Dc code 103 (.aload 11) 2 105 := ⟨by decide +kernel, rfl⟩
theorem d23_105 : Dc code 105 (.iload 5) 2 107 := ⟨by decide +kernel, rfl⟩
theorem d23_107 : Dc code 107 (.invokevirtual 11) 3 110 := ⟨by decide +kernel, rfl⟩
theorem d23_110 : Dc code 110 (.pop) 1 111 := ⟨by decide +kernel, rfl⟩
theorem d23_111 : Dc code 111 (.aload 11) 2 113 := ⟨by decide +kernel, rfl⟩
theorem d23_113 : Dc code 113 (.iload 6) 2 115 := ⟨by decide +kernel, rfl⟩
theorem d23_115 : Dc code 115 (.invokevirtual 11) 3 118 := ⟨by decide +kernel, rfl⟩
theorem d23_118 : Dc code 118 (.pop) 1 119 := ⟨by decide +kernel, rfl⟩
theorem d23_119 : Dc code 119 (.iload 8) 2 121 := ⟨by decide +kernel, rfl⟩
theorem d23_130 : Dc code 130 (.aload 11) 2 132 := ⟨by decide +kernel, rfl⟩
theorem d23_132 : Dc code 132 (.iload 7) 2 134 := ⟨by decide +kernel, rfl⟩
theorem d23_134 : Dc code 134 (.invokevirtual 11) 3 137 := ⟨by decide +kernel, rfl⟩
theorem d23_137 : Dc code 137 (.pop) 1 138 := ⟨by decide +kernel, rfl⟩
theorem d23_138 : Dc code 138 (.iload 10) 2 140 := ⟨by decide +kernel, rfl⟩
theorem d23_140 : Dc code 140 (.iload 7) 2 142 := ⟨by decide +kernel, rfl⟩
theorem d23_169 : Dc code 169 (.istore 12) 2 171 := ⟨by decide +kernel, rfl⟩
theorem d23_171 : Dc code 171 (.aload 11) 2 173 := ⟨by decide +kernel, rfl⟩
theorem d23_173 : Dc code 173 (.iload 10) 2 175 := ⟨by decide +kernel, rfl⟩
theorem d23_175 : Dc code 175 (.invokevirtual 19) 3 178 := ⟨by decide +kernel, rfl⟩
theorem d23_178 : Dc code 178 (.iload 12) 2 180 := ⟨by decide +kernel, rfl⟩
theorem d23_180 : Db code 180 (.if_icmp .ne 7) 7 183 187 := ⟨by decide +kernel, rfl, by decide, by decide⟩
theorem d23_183 : Dc code 183 (.iconst 1) 1 184 := ⟨by decide +kernel, rfl⟩
theorem d23_184 : Db code 184 (.goto 4) 4 187 188 := ⟨by decide +kernel, rfl, by decide, by decide⟩
theorem d23_188 : Dc code 188 (.ireturn) 1 189 := ⟨by decide +kernel, rfl⟩
theorem d23_142 : Db code 142 (.if_icmp .eq 22) 22 145 164 := ⟨by decide +kernel, rfl, by decide, by decide⟩
theorem d23_164 : Dc code 164 (.iconst 1) 1 165 := ⟨by decide +kernel, rfl⟩
theorem d23_165 : Db code 165 (.goto 4) 4 168 169 := ⟨by decide +kernel, rfl, by decide, by decide⟩
theorem d23_145 : Dc code 145 (.iload 8) 2 147 := ⟨by decide +kernel, rfl⟩
theorem d23_147 : Db code 147 (.ifCond .ne 21) 21 150 168 := ⟨by decide +kernel, rfl, by decide, by decide⟩
theorem d23_150 : Dc code 150 (.iload 10) 2 152 := ⟨by decide +kernel, rfl⟩
theorem d23_152 : Dc code 152 (.iload 5) 2 154 := ⟨by decide +kernel, rfl⟩
theorem d23_154 : Db code 154 (.if_icmp .eq 10) 10 157 164 := ⟨by decide +kernel, rfl, by decide, by decide⟩
theorem d23_157 : Dc code 157 (.iload 10) 2 159 := ⟨by decide +kernel, rfl⟩
theorem d23_159 : Dc code 159 (.iload 6) 2 161 := ⟨by decide +kernel, rfl⟩
theorem d23_161 : Db code 161 (.if_icmp .ne 7) 7 164 168 := ⟨by decide +kernel, rfl, by decide, by decide⟩
theorem d23_168 : Dc code 168 (.iconst 0) 1 169 := ⟨by decide +kernel, rfl⟩
theorem d23_121 : Db code 121 (.ifCond .eq 9) 9 124 130 := ⟨by decide +kernel, rfl, by decide, by decide⟩
theorem d23_124 : Dc code 124 (.aload 11) 2 126 := ⟨by decide +kernel, rfl⟩
theorem d23_126 : Dc code 126 (.invokevirtual 15) 3 129 := ⟨by decide +kernel, rfl⟩
theorem d23_129 : Dc code 129 (.pop) 1 130 := ⟨by decide +kernel, rfl⟩
theorem d23_45 : Db code 45 (.ifCond .ne 12) 12 48 57 := ⟨by decide +kernel, rfl, by decide, by decide⟩
theorem d23_48 : Dc code 48 (.iload_n 3) 1 49 := ⟨by decide +kernel, rfl⟩
theorem d23_49 : Dc code 49 (.ldc 7) 2 51 := ⟨by decide +kernel, rfl⟩
theorem d23_51 : Dc code 51 (.iand) 1 52 := ⟨by decide +kernel, rfl⟩
theorem d23_52 : Dc code 52 (.istore 10) 2 54 := ⟨by decide +kernel, rfl⟩
theorem d23_54 : Db code 54 (.goto 40) 40 57 94 := ⟨by decide +kernel, rfl, by decide, by decide⟩
theorem d23_57 : Dc code 57 (.iload 9) 2 59 := ⟨by decide +kernel, rfl⟩
theorem d23_59 : Dc code 59 (.iconst 1) 1 60 := ⟨by decide +kernel, rfl⟩
theorem d23_60 : Db code 60 (.if_icmp .ne 13) 13 63 73 := ⟨by decide +kernel, rfl, by decide, by decide⟩
theorem d23_63 : Dc code 63 (.iload_n 3) 1 64 := ⟨by decide +kernel, rfl⟩
theorem d23_64 : Dc code 64 (.sipush 8191) 3 67 := ⟨by decide +kernel, rfl⟩
theorem d23_67 : Dc code 67 (.iand) 1 68 := ⟨by decide +kernel, rfl⟩
theorem d23_68 : Dc code 68 (.istore 10) 2 70 := ⟨by decide +kernel, rfl⟩
theorem d23_70 : Db code 70 (.goto 24) 24 73 94 := ⟨by decide +kernel, rfl, by decide, by decide⟩
theorem d23_73 : Dc code 73 (.iload 9) 2 75 := ⟨by decide +kernel, rfl⟩
theorem d23_75 : Dc code 75 (.iconst 2) 1 76 := ⟨by decide +kernel, rfl⟩
theorem d23_76 : Db code 76 (.if_icmp .ne 14) 14 79 90 := ⟨by decide +kernel, rfl, by decide, by decide⟩
theorem d23_79 : Dc code 79 (.iload 5) 2 81 := ⟨by decide +kernel, rfl⟩
theorem d23_81 : Dc code 81 (.iload_n 3) 1 82 := ⟨by decide +kernel, rfl⟩
theorem d23_82 : Dc code 82 (.iconst 1) 1 83 := ⟨by decide +kernel, rfl⟩
theorem d23_83 : Dc code 83 (.iand) 1 84 := ⟨by decide +kernel, rfl⟩
theorem d23_84 : Dc code 84 (.ixor) 1 85 := ⟨by decide +kernel, rfl⟩
theorem d23_85 : Dc code 85 (.istore 10) 2 87 := ⟨by decide +kernel, rfl⟩
theorem d23_87 : Db code 87 (.goto 7) 7 90 94 := ⟨by decide +kernel, rfl, by decide, by decide⟩
theorem d23_90 : Dc code 90 (.iload 7) 2 92 := ⟨by decide +kernel, rfl⟩
theorem d23_92 : Dc code 92 (.istore 10) 2 94 := ⟨by decide +kernel, rfl⟩
theorem d23_25 : Db code 25 (.ifCond .eq 7) 7 28 32 := ⟨by decide +kernel, rfl, by decide, by decide⟩
theorem d23_32 : Dc code 32 (.iconst 0) 1 33 := ⟨by decide +kernel, rfl⟩
theorem d23_33 : Dc code 33 (.istore 8) 2 35 := ⟨by decide +kernel, rfl⟩
theorem d23_28 : Dc code 28 (.iconst 1) 1 29 := ⟨by decide +kernel, rfl⟩
theorem d23_29 : Db code 29 (.goto 4) 4 32 33 := ⟨by decide +kernel, rfl, by decide, by decide⟩

theorem dsw1 : decode jdk_48_method_4_code 2 = .ok (.tableswitch 127 4 10 #[42, 55, 127, 127, 88, 101, 114], 42) := by decide +kernel
theorem dsw2 : decode jdk_65_method_150_code 8 = .ok (.lookupswitch 41 #[(0, 28), (1, 32)], 28) := by decide +kernel
section Switch
variable {nw : Bool} {l : Launch} {Z : State} {EL : List (String × Nat)} {own : String} {bytes : ByteArray} {maxL : Nat} {ret : Option FieldType} {mnm : String} {R : Room} {h0 : Heap} {B0 : BP} {ws : List Addr} {Q : QT} {x : Cx} {T : State} {h : Heap} {B : BP} {k n : Nat} {a0 : Array Value} {pc pc' : Nat} {Ls : Array Slot} {st : List Value}
theorem g_tsw (X : Wk nw l Z EL own bytes maxL ret mnm R h0 B0 ws Q x T h B k n) {dflt low high : Int} {offs : Array Int} {len : Nat} (hd : decode bytes pc = .ok (.tableswitch dflt low high offs, len)) {i : Int32} {o : Int} (hin : ¬ (i.toInt < low ∨ i.toInt > high)) (hoff : offs[(i.toInt - low).toNat]? = some o) (ho : 0 ≤ (pc : Int) + o) (hp : ((pc : Int) + o).toNat = pc') (G : Go x (T.setTop (mkF x.m pc' Ls st))) : Go x (T.setTop (mkF x.m pc Ls (.int i :: st))) := by
  subst hp
  exact G.from fun t q => XS.tswIn X.at X.ex rfl rfl (X.dec hd) rfl hin hoff ho rfl q
theorem g_lsw (X : Wk nw l Z EL own bytes maxL ret mnm R h0 B0 ws Q x T h B k n) {dflt : Int} {pairs : Array (Int × Int)} {len : Nat} (hd : decode bytes pc = .ok (.lookupswitch dflt pairs, len)) {i : Int32} (hs : (pairs.toList.zip (pairs.toList.drop 1)).all (fun (a, next) => a.1 < next.1) = true) (hf : pairs.find? (·.1 == i.toInt) = none) (ho : 0 ≤ (pc : Int) + dflt) (hp : ((pc : Int) + dflt).toNat = pc') (G : Go x (T.setTop (mkF x.m pc' Ls st))) : Go x (T.setTop (mkF x.m pc Ls (.int i :: st))) := by
  obtain ⟨S, vm0, k0, locs, X, r⟩ := X
  subst hp
  exact G.from fun t q => X.lookupswitchMiss S.1 (g := mkF x.m pc Ls (.int i :: st)) rfl rfl (S.2.1 ▸ hd) hs hf ho t q
theorem g_newarrayE (X : Wk nw l Z EL own bytes maxL ret mnm R h0 B0 ws Q x T h B k n) {aty : ArrayType} {ty : FieldType} (hd : Dc bytes pc (.newarray aty) 2 pc') (hty : newarray.typeOf aty = ty) {ad : String} (had : "[" ++ (newarray.typeOf aty).toString = ad) (w : (Cond.arrayClass ty).before a0 Z = true) {j : Int32} (len cap : Nat) (hj : j = Int32.ofNat len) (hcap : len ≤ cap) (hbig : cap * 8 ≤ 536870912) (k' n' : Nat) (ek : k + 1 = k') (en : n + cap = n') (hc : k' ≤ R.cells) (hs : n' ≤ R.slots)
    (K : ∀ T' h' a, Wk nw l Z EL own bytes maxL ret mnm R h0 B0 ws Q x T' h' B k' n' → Ext h h' → a = h.size → ¬ B a → Ay Z h' a ty (List.replicate len (defaultValue ty)) → Exa Z h' a ad → Go x (T'.setTop (mkF x.m pc' Ls (.ref a :: st)))) : Go x (T.setTop (mkF x.m pc Ls (.int j :: st))) := by
  have hB := X.fresh
  subst hty hj ek en
  obtain ⟨S, vm0, k0, locs, X, eT, hS, hk, hZ, hown, hI, hFr, hK, hM, hN⟩ := X
  obtain ⟨hd, rfl⟩ := hd
  have hlt : len < 2 ^ 31 := by omega
  obtain ⟨q1, q2⟩ := i32_nat hlt
  obtain ⟨T', h', cA, X', e', E, A, Ea, stp⟩ := newPE X S.1 hZ w eT (g := mkF x.m pc Ls (.int (Int32.ofNat len) :: st)) rfl (S.2.1 ▸ hd) rfl q2 (cap := cap) (by rw [q1]; exact hcap) hbig hc hs had
  refine (K T' h' _ ⟨S, vm0, k0, locs, X', e', hS, Nat.le_trans hk E.1, hZ, hown, hI.ext E, hFr, hK.ext E, hM, hN⟩ E rfl hB ⟨_, A, ?_, by simpa using hlt, ?_⟩ Ea).from stp
  · simp [newA, q1]
  · intro v hv
    rw [(List.mem_replicate.mp hv).2]
    cases aty <;> rfl
end Switch
theorem k_litlt {j f : Nat} (hj : j < 2 ^ 31) (hf : f < 2 ^ 31) : Int32.ofNat j < Int32.ofNat f ↔ j < f := by
  rw [Int32.lt_iff_toInt_lt, k_ofNat hj, k_ofNat hf]; omega
def pw (k : Nat) : Int64 := (1 : Int64) <<< ((Int32.ofNat k).toInt64 &&& 63)
def bitB (L : List Int64) (q : Nat) : Bool := (L.getD (q / 64) 0 &&& pw (q % 64)) != 0
abbrev bit (L : List Int64) (q : Nat) : Prop := bitB L q = true
theorem bit_iff {L : List Int64} {q : Nat} (h : q / 64 < L.length) : bit L q ↔ ¬ (L[q / 64] &&& pw (q % 64)) = 0 := by
  simp [bit, bitB, List.getD_eq_getElem?_getD, h]
theorem bit_out {L : List Int64} {q : Nat} (h : L.length ≤ q / 64) : ¬ bit L q := by
  simp [bit, bitB, List.getD_eq_getElem?_getD, h]
theorem bit_lt {L : List Int64} {q : Nat} (g : bit L q) : q / 64 < L.length := by
  rcases Nat.lt_or_ge (q / 64) L.length with r | r
  · exact r
  · exact absurd g (bit_out r)
theorem bit_zero (z : Nat) : ¬ bit [0] z := by
  rcases Nat.lt_or_ge (z / 64) 1 with r | r
  · rw [bit_iff r]; simp [show z / 64 = 0 by omega]
  · exact bit_out r
theorem pw_and : ∀ a, a < 64 → ∀ b, b < 64 → ((pw a &&& pw b = 0) ↔ a ≠ b) := by decide +kernel
theorem i64_or_and {g x y : Int64} : (g ||| x) &&& y = 0 ↔ g &&& y = 0 ∧ x &&& y = 0 := by
  simp only [← Int64.toBitVec_inj, Int64.toBitVec_and, Int64.toBitVec_or]
  constructor
  · intro q
    constructor <;> apply BitVec.eq_of_getLsbD_eq <;> intro i hi <;> have := congrArg (fun z => z.getLsbD i) q <;> simp at this ⊢ <;> intro r
    · cases hy : y.toBitVec.getLsbD i <;> simp_all
    · cases hy : y.toBitVec.getLsbD i <;> simp_all
  · intro ⟨q, r⟩
    apply BitVec.eq_of_getLsbD_eq
    intro i hi
    have q := congrArg (fun z => z.getLsbD i) q
    have r := congrArg (fun z => z.getLsbD i) r
    simp at q r ⊢
    rintro (s | s)
    · exact q s
    · exact r s
theorem bit_set {L : List Int64} {q z : Nat} (h : q / 64 < L.length) : bit (L.set (q / 64) (L[q / 64] ||| pw (q % 64))) z ↔ bit L z ∨ z = q := by
  rcases Nat.lt_or_ge (z / 64) L.length with r | r
  · rw [bit_iff (by simpa using r), bit_iff r]
    by_cases e : q / 64 = z / 64
    · simp only [List.getElem_set, e, if_true]
      simp only [← e] at *
      rw [i64_or_and]
      have := pw_and (q % 64) (Nat.mod_lt _ (by decide)) (z % 64) (Nat.mod_lt _ (by decide))
      rw [this]
      constructor
      · intro g
        rcases Classical.em (L[q / 64] &&& pw (z % 64) = 0) with s | s
        · have : q % 64 = z % 64 := Classical.byContradiction fun t => g ⟨s, t⟩
          exact Or.inr (by omega)
        · exact Or.inl s
      · rintro (s | rfl) g
        · exact s g.1
        · exact g.2 rfl
    · simp only [List.getElem_set, e, if_false]
      exact ⟨Or.inl, fun g => g.elim id (fun g => absurd (by rw [g]) e)⟩
  · have h1 : ¬ bit L z := bit_out r
    have h2 : ¬ bit (L.set (q / 64) (L[q / 64] ||| pw (q % 64))) z := bit_out (by simpa using r)
    exact ⟨fun g => absurd g h2, fun g => g.elim (fun g => absurd g h1) (fun g => by subst g; omega)⟩
theorem bit_clr {L : List Int64} {q z : Nat} (g : bit (L.set (q / 64) 0) z) : bit L z ∧ q / 64 ≠ z / 64 := by
  have r := bit_lt g
  simp at r
  rw [bit_iff (by simpa using r)] at g
  by_cases e : q / 64 = z / 64
  · simp [List.getElem_set, e] at g
  · simp only [List.getElem_set, e, if_false] at g
    exact ⟨(bit_iff r).mpr g, e⟩
theorem bit_clr1 {L : List Int64} {c z : Nat} (h : ∀ z, bit L z → z = c) (g : bit (L.set (c / 64) 0) z) : False := by
  obtain ⟨a, b⟩ := bit_clr g
  exact b (by rw [h z a])
theorem bit_clr2 {L : List Int64} {c d z : Nat} (h : ∀ z, bit L z → z = c ∨ z = d) (g : bit ((L.set (c / 64) 0).set (d / 64) 0) z) : False := by
  obtain ⟨a, b⟩ := bit_clr g
  obtain ⟨a, b'⟩ := bit_clr a
  rcases h z a with rfl | rfl
  · exact b' rfl
  · exact b rfl
theorem bit_pad {L : List Int64} {k z : Nat} : bit (L ++ List.replicate k 0) z ↔ bit L z := by
  rcases Nat.lt_or_ge (z / 64) L.length with r | r
  · rw [bit_iff (by simp; omega), bit_iff r, List.getElem_append_left r]
  · refine ⟨fun g => ?_, fun g => absurd g (bit_out r)⟩
    have q := bit_lt g
    rw [bit_iff q, List.getElem_append_right r] at g
    simp at g
theorem k_divn {q d : Nat} (hq : q < 2 ^ 31) (h0 : 0 < d) (hd : d < 2 ^ 31) : Int32.ofNat q / Int32.ofNat d = Int32.ofNat (q / d) := by
  have h : q / d < 2 ^ 31 := Nat.lt_of_le_of_lt (Nat.div_le_self _ _) hq
  rw [← Int32.toInt_inj, Int32.toInt_div, k_ofNat hq, k_ofNat hd, k_ofNat h, ← Int.ofNat_tdiv]
  have h1 : (0 : Int) ≤ ((q / d : Nat) : Int) := Int.natCast_nonneg _
  generalize q / d = z at h h1
  exact Int.bmod_eq_of_le (by omega) (by omega)
theorem k_modn {q d : Nat} (hq : q < 2 ^ 31) (hd : d < 2 ^ 31) : Int32.ofNat q % Int32.ofNat d = Int32.ofNat (q % d) := by
  have h : q % d < 2 ^ 31 := Nat.lt_of_le_of_lt (Nat.mod_le _ _) hq
  rw [← Int32.toInt_inj, Int32.toInt_mod, k_ofNat hq, k_ofNat hd, k_ofNat h, ← Int.ofNat_tmod]
theorem k_div64 {q : Nat} (hq : q < 2 ^ 31) : Int32.ofNat q / 64 = Int32.ofNat (q / 64) := k_divn (d := 64) hq (by decide) (by decide)
theorem k_mod64 {q : Nat} (hq : q < 2 ^ 31) : Int32.ofNat q % 64 = Int32.ofNat (q % 64) := k_modn (d := 64) hq (by decide)
theorem k_mul2 (n : Nat) : (2 : Int32) * Int32.ofNat n = Int32.ofNat (2 * n) := (Int32.ofNat_mul 2 n).symm
theorem k_max {i j : Nat} (hi : i < 2 ^ 31) (hj : j < 2 ^ 31) : (if Int32.ofNat i < Int32.ofNat j then Int32.ofNat j else Int32.ofNat i) = Int32.ofNat (max i j) := by
  simp only [k_litlt hi hj]
  split
  · rw [Nat.max_eq_right (by omega)]
  · rw [Nat.max_eq_left (by omega)]
theorem k_min' {i j : Nat} (h : i < j) (hj : j < 2 ^ 31) : (if Int32.ofNat j < Int32.ofNat i then Int32.ofNat j else Int32.ofNat i) = Int32.ofNat i := by
  rw [if_neg]
  rw [k_litlt hj (by omega)]; omega
theorem k_ltne {c d : Int32} (h : ¬ d < c) (n : c ≠ d) : c < d := by
  rw [Int32.lt_iff_toInt_lt] at *
  have : c.toInt ≠ d.toInt := fun q => n (Int32.toInt_inj.mp q)
  omega
theorem k_maskn {p : Int32} (m : Nat) (hm : m < 2 ^ 31) : ∃ n : Nat, n ≤ m ∧ p &&& Int32.ofNat m = Int32.ofNat n := by
  refine ⟨(p.toBitVec &&& BitVec.ofNat 32 m).toNat, ?_, ?_⟩
  · rw [BitVec.toNat_and]
    refine Nat.le_trans Nat.and_le_right ?_
    rw [BitVec.toNat_ofNat]; exact Nat.mod_le _ _
  · apply Int32.toBitVec_inj.mp
    rw [Int32.toBitVec_and, Int32.toBitVec_ofNat', Int32.toBitVec_ofNat', BitVec.ofNat_toNat, BitVec.setWidth_eq]
theorem k_and12 (p : Int32) : ∃ n : Nat, n < 4096 ∧ p &&& 4095 = Int32.ofNat n := by
  obtain ⟨n, h, e⟩ := k_maskn (p := p) 4095 (by decide)
  exact ⟨n, by omega, e⟩
theorem k_and13 (p : Int32) : ∃ n : Nat, n < 8192 ∧ p &&& 8191 = Int32.ofNat n := by
  obtain ⟨n, h, e⟩ := k_maskn (p := p) 8191 (by decide)
  exact ⟨n, by omega, e⟩
theorem k_and31 (p : Int32) : ∃ n : Nat, n < 2 ^ 31 ∧ p &&& 2147483647 = Int32.ofNat n := by
  obtain ⟨n, h, e⟩ := k_maskn (p := p) 2147483647 (by decide)
  exact ⟨n, by omega, e⟩
theorem k_xor1 {a : Nat} (ha : a < 4096) (p : Int32) : ∃ n : Nat, n < 2 ^ 31 ∧ Int32.ofNat a ^^^ (p &&& 1) = Int32.ofNat n := by
  obtain ⟨n, h, e⟩ := k_maskn (p := p) 1 (by decide)
  refine ⟨a ^^^ n, ?_, ?_⟩
  · exact Nat.lt_of_lt_of_le (Nat.xor_lt_two_pow (n := 12) (by omega) (by omega)) (by decide)
  · rw [show (p &&& 1) = Int32.ofNat n from e]
    apply Int32.toBitVec_inj.mp
    simp [Int32.toBitVec_ofNat', BitVec.ofNat_xor]
theorem k_sorted {L : List Int64} {c d : Nat} {x y : Int32} (hc : c < 4096) (hd : d < 4096) (hcb : bit L c) (hdb : bit L d) (hbit : ∀ z, bit L z → z = c ∨ z = d) (hlt : x < y) (hor : x = Int32.ofNat c ∧ y = Int32.ofNat d ∨ x = Int32.ofNat d ∧ y = Int32.ofNat c) :
    ∃ g e : Nat, x = Int32.ofNat g ∧ y = Int32.ofNat (g + e) ∧ 0 < e ∧ g + e < 4096 ∧ bit L g ∧ bit L (g + e) ∧ ∀ z, bit L z → z = g ∨ z = g + e := by
  rcases hor with ⟨rfl, rfl⟩ | ⟨rfl, rfl⟩
  · have := (k_litlt (by omega) (by omega)).mp hlt
    have e : c + (d - c) = d := by omega
    exact ⟨c, d - c, rfl, by rw [e], by omega, by omega, hcb, by rwa [e], by rwa [e]⟩
  · have := (k_litlt (by omega) (by omega)).mp hlt
    have e : d + (c - d) = c := by omega
    exact ⟨d, c - d, rfl, by rw [e], by omega, by omega, hdb, by rwa [e], fun z r => by rw [e]; exact (hbit z r).symm⟩
def BS (Z : State) (h : Heap) (b i t u : Addr) (L : List Int64) (ms pd : List Int32) : Prop :=
  Exa Z h b "com/example/verichor/verichor/explore/StateSet$Builder" ∧ Fld Z h b "com/example/verichor/verichor/explore/StateSet$Builder" "added" "[J" (.ref t) ∧ Fld Z h b "com/example/verichor/verichor/explore/StateSet$Builder" "members" "Lcom/example/verichor/verichor/composition/Ints;" (.ref i) ∧ Exa Z h i "com/example/verichor/verichor/composition/Ints" ∧ Fld Z h i "com/example/verichor/verichor/composition/Ints" "values" "[I" (.ref u) ∧ Fld Z h i "com/example/verichor/verichor/composition/Ints" "size" "I" (.int (Int32.ofNat ms.length)) ∧ Ay Z h t .long (L.map Value.long) ∧ Ay Z h u .int ((ms ++ pd).map Value.int)
theorem BS.op {Z : State} {h : Heap} {b i t u : Addr} {L : List Int64} {ms pd : List Int32} (S : BS Z h b i t u L ms pd) : Exa Z h b "com/example/verichor/verichor/explore/StateSet$Builder" ∧ Fld Z h b "com/example/verichor/verichor/explore/StateSet$Builder" "added" "[J" (.ref t) ∧ Fld Z h b "com/example/verichor/verichor/explore/StateSet$Builder" "members" "Lcom/example/verichor/verichor/composition/Ints;" (.ref i) ∧ Exa Z h i "com/example/verichor/verichor/composition/Ints" ∧ Fld Z h i "com/example/verichor/verichor/composition/Ints" "values" "[I" (.ref u) ∧ Fld Z h i "com/example/verichor/verichor/composition/Ints" "size" "I" (.int (Int32.ofNat ms.length)) ∧ Ay Z h t .long (L.map Value.long) ∧ Ay Z h u .int ((ms ++ pd).map Value.int) := S
abbrev Sts (Z : State) : Prop := True
set_option maxRecDepth 65536 in
set_option maxHeartbeats 40000000 in
theorem c_min {nw : Bool} {l : Launch} {Z : State} {EL : List (String × Nat)} {a0 : Array Value} (hw : HW Z a0) (hs : Sts Z) {h0 : Heap} {B0 : BP} (u v r : Int32) (hr : (if v < u then v else u) = r) :
    Con nw l Z EL (⟨"java/lang/Math", "min", "(II)I"⟩ : MethodName) jdk_29_method_69_code 2 (some .int) [] ({ frames := 0, cells := 0, slots := 0, locals := 0 } : Room) #[(.int u), (.int v)] h0 B0 [] (PQ (some (.int r)) h0 B0) := by
  refine k_intro (Ls := #[.val (.int u), .val (.int v)]) (by decide +kernel) rfl fun x T0 X0 => ?_
  refine g_iloadN X0 d0_0 rfl ?_
  refine g_iloadN X0 d0_1 rfl ?_
  by_cases h : v < u
  ·
    refine g_icmpT X0 d0_2 (XT.ii_gt_t h) ?_
    refine g_iloadN X0 d0_9 rfl ?_
    exact g_ireturnI X0 d0_10 (by decide) (by decide) ⟨by rw [← hr, if_pos h], rfl, rfl⟩
  ·
    refine g_icmpF X0 d0_2 (XT.ii_gt_f h) ?_
    refine g_iloadN X0 d0_5 rfl ?_
    refine g_goto X0 d0_6 ?_
    exact g_ireturnI X0 d0_10 (by decide) (by decide) ⟨by rw [← hr, if_neg h], rfl, rfl⟩
set_option maxRecDepth 65536 in
set_option maxHeartbeats 40000000 in
theorem c_max {nw : Bool} {l : Launch} {Z : State} {EL : List (String × Nat)} {a0 : Array Value} (hw : HW Z a0) (hs : Sts Z) {h0 : Heap} {B0 : BP} (u v r : Int32) (hr : (if u < v then v else u) = r) :
    Con nw l Z EL (⟨"java/lang/Math", "max", "(II)I"⟩ : MethodName) jdk_29_method_65_code 2 (some .int) [] ({ frames := 0, cells := 0, slots := 0, locals := 0 } : Room) #[(.int u), (.int v)] h0 B0 [] (PQ (some (.int r)) h0 B0) := by
  refine k_intro (Ls := #[.val (.int u), .val (.int v)]) (by decide +kernel) rfl fun x T0 X0 => ?_
  refine g_iloadN X0 d1_0 rfl ?_
  refine g_iloadN X0 d1_1 rfl ?_
  by_cases h : u < v
  ·
    refine g_icmpT X0 d1_2 (XT.ii_lt_t h) ?_
    refine g_iloadN X0 d1_9 rfl ?_
    exact g_ireturnI X0 d1_10 (by decide) (by decide) ⟨by rw [← hr, if_pos h], rfl, rfl⟩
  ·
    refine g_icmpF X0 d1_2 (XT.ii_lt_f h) ?_
    refine g_iloadN X0 d1_5 rfl ?_
    refine g_goto X0 d1_6 ?_
    exact g_ireturnI X0 d1_10 (by decide) (by decide) ⟨by rw [← hr, if_neg h], rfl, rfl⟩
set_option maxRecDepth 65536 in
set_option maxHeartbeats 40000000 in
theorem c_intsInit {nw : Bool} {l : Launch} {Z : State} {EL : List (String × Nat)} {a0 : Array Value} (hw : HW Z a0) (hs : Sts Z) {h0 : Heap} {B0 : BP} (a : Addr) (E_a : Exa Z h0 a "com/example/verichor/verichor/composition/Ints") {ua_values : Value} (Fa_values : Fld Z h0 a "com/example/verichor/verichor/composition/Ints" "values" "[I" ua_values) {ua_size : Value} (Fa_size : Fld Z h0 a "com/example/verichor/verichor/composition/Ints" "size" "I" ua_size) (nb_a : ¬ B0 a) (zl_a : Z.heap.size ≤ a)  :
    Con nw l Z EL (⟨"com/example/verichor/verichor/composition/Ints", "<init>", "()V"⟩ : MethodName) prog_72_method_1_code 1 none [] ({ frames := 1, cells := 1, slots := 4, locals := 12 } : Room) #[(.ref a)] h0 B0 [a] (fun v h B => ∃ u, v = none ∧ B0 = B ∧ h0.size ≤ u ∧ Exa Z h a "com/example/verichor/verichor/composition/Ints" ∧ Fld Z h a "com/example/verichor/verichor/composition/Ints" "values" "[I" (.ref u) ∧ Fld Z h a "com/example/verichor/verichor/composition/Ints" "size" "I" ua_size ∧ Ay Z h u .int [.int 0, .int 0, .int 0, .int 0]) := by
  refine k_intro (Ls := #[.val (.ref a)]) (by decide +kernel) rfl fun x T0 X0 => ?_
  have lt_a := k_ltE E_a
  refine g_aloadN X0 d2_0 rfl rfl ?_
  refine g_init X0 d2_1 rfl rfl (w19 hw) (w8 hw) (w9 hw) 0 rfl (by decide) (Nat.le_of_eq rfl) (by decide) fun T1 X1 => ?_
  refine g_aloadN X1 d2_4 rfl rfl ?_
  refine g_iconst X1 (4 : Int32) d2_5 (by decide) ?_
  refine g_newarray X1 d2_6 rfl (w20 hw) 4 4 (by decide) (Nat.le_refl _) (by decide) 1 4 rfl rfl (by decide) (by decide) fun T2 h2 b2 X2 E2 eb2 nb2 A2 => ?_
  have z2 := E2.1; have lt2 : @LT.lt Nat _ b2 h2.size := A2.lt; have zl2 : @LE.le Nat _ Z.heap.size b2 := eb2 ▸ X1.szZ; have fr2 : @LE.le Nat _ h0.size b2 := eb2 ▸ X1.sz
  have A2a : Ay Z h2 b2 .int [(.int (0 : Int32)), (.int (0 : Int32)), (.int (0 : Int32)), (.int (0 : Int32))] := A2
  have F3 := (Fa_values.ext E2)
  have E_4 := (E_a.ext E2)
  refine g_putfield X2 d2_8 (w21 hw) Via.refl F3 E_4 (Or.inl (w22 hw)) (w14 hw) (ty := (.array .int)) (v' := (.ref b2)) (by decide) rfl rfl nb_a zl_a (Or.inl (List.mem_of_getElem? (i := 0) rfl)) fun T5 h5 X5 W5 => ?_
  have z5 := W5.size; have Fw5 := F3.same W5
  have E_6 := (E_4.wr W5)
  have F7 := ((Fa_size.ext E2).other W5 (Or.inr (slot_ne (Or.inl (w41 hw)) (Or.inl (w22 hw)) (by decide) (t := .int) (t' := (.array .int)) (by decide) (by decide))))
  have A8 := (A2a.keep (Keep.of_wr W5) (ninS (k_neN (by omega)) nin0))
  exact g_return X5 d2_11 (by decide) (by decide) ⟨_, rfl, rfl, fr2, E_6, Fw5, F7, A8⟩
set_option maxRecDepth 65536 in
set_option maxHeartbeats 40000000 in
theorem c_bldInit {nw : Bool} {l : Launch} {Z : State} {EL : List (String × Nat)} {a0 : Array Value} (hw : HW Z a0) (hs : Sts Z) {h0 : Heap} {B0 : BP} (b : Addr) (E_b : Exa Z h0 b "com/example/verichor/verichor/explore/StateSet$Builder") {ub_added : Value} (Fb_added : Fld Z h0 b "com/example/verichor/verichor/explore/StateSet$Builder" "added" "[J" ub_added) {ub_members : Value} (Fb_members : Fld Z h0 b "com/example/verichor/verichor/explore/StateSet$Builder" "members" "Lcom/example/verichor/verichor/composition/Ints;" ub_members) (nb_b : ¬ B0 b) (zl_b : Z.heap.size ≤ b)  :
    Con nw l Z EL (⟨"com/example/verichor/verichor/explore/StateSet$Builder", "<init>", "()V"⟩ : MethodName) prog_218_method_1_code 1 none [] ({ frames := 2, cells := 3, slots := 7, locals := 26 } : Room) #[(.ref b)] h0 B0 [b] (fun v h B => ∃ i t u, v = none ∧ B0 = B ∧ h0.size ≤ i ∧ h0.size ≤ t ∧ h0.size ≤ u ∧ @Ne Nat t u ∧ BS Z h b i t u [0] [] [0, 0, 0, 0]) := by
  refine k_intro (Ls := #[.val (.ref b)]) (by decide +kernel) rfl fun x T0 X0 => ?_
  have lt_b := k_ltE E_b
  refine g_aloadN X0 d3_0 rfl rfl ?_
  refine g_init X0 d3_1 rfl rfl (w7 hw) (w8 hw) (w9 hw) 0 rfl (by decide) (Nat.le_of_eq rfl) (by decide) fun T1 X1 => ?_
  refine g_aloadN X1 d3_4 rfl rfl ?_
  refine g_iconst X1 (1 : Int32) d3_5 (by decide) ?_
  refine g_newarray X1 d3_6 rfl (w10 hw) 1 1 (by decide) (Nat.le_refl _) (by decide) 1 1 rfl rfl (by decide) (by decide) fun T2 h2 b2 X2 E2 eb2 nb2 A2 => ?_
  have z2 := E2.1; have lt2 : @LT.lt Nat _ b2 h2.size := A2.lt; have zl2 : @LE.le Nat _ Z.heap.size b2 := eb2 ▸ X1.szZ; have fr2 : @LE.le Nat _ h0.size b2 := eb2 ▸ X1.sz
  have A2a : Ay Z h2 b2 .long [(.long (0 : Int64))] := A2
  have F3 := (Fb_added.ext E2)
  have E_4 := (E_b.ext E2)
  refine g_putfield X2 d3_8 (w11 hw) Via.refl F3 E_4 (Or.inl (w12 hw)) (w2 hw) (ty := (.array .long)) (v' := (.ref b2)) (by decide) rfl rfl nb_b zl_b (Or.inl (List.mem_of_getElem? (i := 0) rfl)) fun T5 h5 X5 W5 => ?_
  have z5 := W5.size; have Fw5 := F3.same W5
  refine g_aloadN X5 d3_11 rfl rfl ?_
  refine g_new X5 d3_12 (w13 hw) (w14 hw) (w15 hw) 2 3 rfl rfl (by decide) (by decide) fun T6 h6 b6 X6 E6 eb6 nb6 Ex6 D6 => ?_
  have z6 := E6.1; have lt6 : @LT.lt Nat _ b6 h6.size := Ex6.lt; have zl6 : @LE.le Nat _ Z.heap.size b6 := eb6 ▸ X5.szZ; have fr6 : @LE.le Nat _ h0.size b6 := eb6 ▸ X5.sz
  have F6_values : Fld Z h6 b6 "com/example/verichor/verichor/composition/Ints" "values" "[I" .null := D6 (Or.inl (w22 hw)) (ty := (.array .int)) (by decide)
  have F6_size : Fld Z h6 b6 "com/example/verichor/verichor/composition/Ints" "size" "I" (.int (0 : Int32)) := D6 (Or.inl (w41 hw)) (ty := .int) (by decide)
  refine g_dup X6 d3_15 rfl ?_
  refine g_callI X6 d3_16 (w16 hw) (w17 hw) (w15 hw) (w18 hw) rfl (by decide) pd0 b6 [] [(.ref b6), (.ref b)] 2 (c_intsInit hw hs b6 Ex6 F6_values F6_size nb6 zl6) rfl rfl rfl (Nat.le_of_eq rfl) (by decide) (by decide) 3 7 rfl rfl (by decide) (by decide) (k_ws1 ⟨nb6, zl6, (Or.inr fr6)⟩) fun v7 T7 h7 B7 X7 K7 M7 q7 => ?_
  obtain ⟨u, rfl, rfl, fu, Ei, Fv, Fs, Au⟩ := q7
  have z7 := K7.1
  show Go x (T7.setTop (mkF x.m 19 #[.val (.ref b)] [(.ref b6), (.ref b)]))
  have lt_u := Au.lt; have lt_i := k_ltE Ei
  have F8 := ((((Fb_members.ext E2).other W5 (Or.inr (slot_ne (Or.inr (w24 hw)) (Or.inl (w12 hw)) (by decide) (t := (.object "com/example/verichor/verichor/composition/Ints")) (t' := (.array .long)) (by decide) (by decide)))).ext E6).keep K7 (ninS (k_neN (by omega)) nin0))
  have E_9 := (((E_4.wr W5).ext E6).keep K7)
  refine g_putfield X7 d3_19 (w23 hw) Via.refl F8 E_9 (Or.inr ⟨(w24 hw), rfl, rfl⟩) (w2 hw) (ty := (.object "com/example/verichor/verichor/composition/Ints")) (v' := (.ref b6)) (by decide) rfl rfl nb_b zl_b (Or.inl (List.mem_of_getElem? (i := 0) rfl)) fun T10 h10 X10 W10 => ?_
  have z10 := W10.size; have Fw10 := F8.same W10
  have E_11 := (E_9.wr W10)
  have F12 := (((Fw5.ext E6).keep K7 (ninS (k_neN (by omega)) nin0)).other W10 (Or.inr (slot_ne (Or.inl (w12 hw)) (Or.inr (w24 hw)) (by decide) (t := (.array .long)) (t' := (.object "com/example/verichor/verichor/composition/Ints")) (by decide) (by decide))))
  have E_13 := (Ei.wr W10)
  have F14 := (Fv.other W10 (Or.inl (k_neN (by omega))))
  have F15 := (Fs.other W10 (Or.inl (k_neN (by omega))))
  have A16 := ((((A2a.keep (Keep.of_wr W5) (ninS (k_neN (by omega)) nin0)).ext E6).keep K7 (ninS (k_neN (by omega)) nin0)).keep (Keep.of_wr W10) (ninS (k_neN (by omega)) nin0))
  have A17 := (Au.keep (Keep.of_wr W10) (ninS (k_neN (by omega)) nin0))
  exact g_return X10 d3_22 (by decide) (by decide) ⟨b6, b2, u, rfl, rfl, fr6, fr2, by omega, by omega, E_11, F12, Fw10, E_13, F14, F15, A16, A17⟩
set_option maxRecDepth 65536 in
set_option maxHeartbeats 40000000 in
theorem c_contains {nw : Bool} {l : Launch} {Z : State} {EL : List (String × Nat)} {a0 : Array Value} (hw : HW Z a0) (hs : Sts Z) {h0 : Heap} {B0 : BP} (b i t u : Addr) (q : Nat) (L : List Int64) (ms pd : List Int32) (S : BS Z h0 b i t u L ms pd) (hq : q < 2 ^ 31) :
    Con nw l Z EL (⟨"com/example/verichor/verichor/explore/StateSet$Builder", "contains", "(I)Z"⟩ : MethodName) prog_218_method_2_code 3 (some .boolean) [] ({ frames := 0, cells := 0, slots := 0, locals := 0 } : Room) #[(.ref b), (.int (Int32.ofNat q))] h0 B0 [] (PQ (some (.int (if bit L q then 1 else 0))) h0 B0) := by
  refine k_intro (Ls := #[.val (.ref b), .val (.int (Int32.ofNat q)), .unset]) (by decide +kernel) rfl fun x T0 X0 => ?_
  obtain ⟨E_b, Fb_added, Fb_members, E_i, Fi_values, Fi_size, A_t, A_u⟩ := S.op
  have lt_b := k_ltE E_b; have lt_i := k_ltE E_i; have lt_t := A_t.lt; have lt_u := A_u.lt
  have hl : L.length < 2 ^ 31 := by simpa using A_t.len
  refine g_iloadN X0 d4_0 rfl ?_
  refine g_bipush X0 (64 : Int32) d4_1 (by decide) ?_
  refine g_idiv X0 (Int32.ofNat (q / 64)) d4_3 (by decide) (k_div64 hq) ?_
  refine g_istoreN X0 #[.val (.ref b), .val (.int (Int32.ofNat q)), .val (.int (Int32.ofNat (q / 64)))] d4_4 rfl ?_
  refine g_iloadN X0 d4_5 rfl ?_
  refine g_aloadN X0 d4_6 rfl rfl ?_
  refine g_getfield X0 d4_7 (w11 hw) Via.refl Fb_added fun T1 X1 => ?_
  refine g_arraylength X1 d4_10 A_t (Int32.ofNat L.length) (by simp) ?_
  by_cases hlt : (Int32.ofNat (q / 64)) < (Int32.ofNat L.length)
  ·
    refine g_icmpF X1 d4_11 (XT.ii_ge_f hlt) ?_
    have hlt' : q / 64 < L.length := (k_litlt (by omega) hl).mp hlt
    refine g_aloadN X1 d4_14 rfl rfl ?_
    refine g_getfield X1 d4_15 (w11 hw) Via.refl Fb_added fun T2 X2 => ?_
    refine g_iloadN X2 d4_18 rfl ?_
    refine g_laload X2 d4_19 A_t (q / 64) rfl (v := .long L[q / 64]) (by simp [hlt']) ?_
    refine g_lconst X2 (1 : Int64) d4_20 (by decide) ?_
    refine g_iloadN X2 d4_21 rfl ?_
    refine g_bipush X2 (64 : Int32) d4_22 (by decide) ?_
    refine g_irem X2 (Int32.ofNat (q % 64)) d4_24 (by decide) (k_mod64 hq) ?_
    refine g_lshl X2 (pw (q % 64)) d4_25 rfl ?_
    refine g_land X2 ((L[q / 64]) &&& (pw (q % 64))) d4_26 rfl ?_
    refine g_lconst X2 (0 : Int64) d4_27 (by decide) ?_
    refine g_lcmp X2 (XT.cmpL ((L[q / 64]) &&& (pw (q % 64))) (0 : Int64)) d4_28 rfl ?_
    by_cases hz : L[q / 64] &&& pw (q % 64) = 0
    ·
      refine g_ifT X2 d4_29 (XT.ll_eq_t hz) ?_
      refine g_iconst X2 (0 : Int32) d4_36 (by decide) ?_
      exact g_ireturn (w' := (0 : Int32)) X2 d4_37 (Or.inl rfl) (by decide) (by decide) (by decide) ⟨by rw [if_neg (fun g => (bit_iff hlt').mp g hz)], rfl, rfl⟩
    ·
      refine g_ifF X2 d4_29 (XT.ll_eq_f hz) ?_
      refine g_iconst X2 (1 : Int32) d4_32 (by decide) ?_
      refine g_goto X2 d4_33 ?_
      exact g_ireturn (w' := (1 : Int32)) X2 d4_37 (Or.inl rfl) (by decide) (by decide) (by decide) ⟨by rw [if_pos ((bit_iff hlt').mpr hz)], rfl, rfl⟩
  ·
    refine g_icmpT X1 d4_11 (XT.ii_ge_t hlt) ?_
    refine g_iconst X1 (0 : Int32) d4_36 (by decide) ?_
    exact g_ireturn (w' := (0 : Int32)) X1 d4_37 (Or.inl rfl) (by decide) (by decide) (by decide) ⟨by rw [if_neg (fun g => hlt ((k_litlt (by omega) hl).mpr (bit_lt g)))], rfl, rfl⟩
set_option maxRecDepth 65536 in
set_option maxHeartbeats 40000000 in
theorem c_copyOfJ {nw : Bool} {l : Launch} {Z : State} {EL : List (String × Nat)} {a0 : Array Value} (hw : HW Z a0) (hs : Sts Z) {h0 : Heap} {B0 : BP} (t : Addr) (m : Nat) (vs : List Value) (A : Ay Z h0 t .long vs) (hm : vs.length < m) (hcap : m ≤ 126) :
    Con nw l Z EL (⟨"java/util/Arrays", "copyOf", "([JI)[J"⟩ : MethodName) jdk_65_method_124_code 3 (some (.array .long)) [] ({ frames := 1, cells := 1, slots := 126, locals := 18 } : Room) #[(.ref t), (.int (Int32.ofNat m))] h0 B0 [] (fun v h B => ∃ r, v = some (.ref r) ∧ B0 = B ∧ h0.size ≤ r ∧ ¬ B r ∧ Ay Z h r .long (vs ++ List.replicate (m - vs.length) (.long 0))) := by
  refine k_intro (Ls := #[.val (.ref t), .val (.int (Int32.ofNat m)), .unset]) (by decide +kernel) rfl fun x T0 X0 => ?_
  have hl := A.len
  have lt_t := A.lt
  refine g_iloadN X0 d5_0 rfl ?_
  refine g_aloadN X0 d5_1 rfl rfl ?_
  refine g_arraylength X0 d5_2 A (Int32.ofNat vs.length) rfl ?_
  refine g_icmpT X0 d5_3 (XT.ii_ne_t (fun g => absurd ((k_eqn (by omega) hl).mp g) (by omega))) ?_
  refine g_iloadN X0 d5_14 rfl ?_
  refine g_newarray X0 d5_15 rfl (w10 hw) m 126 rfl hcap (by decide) 1 126 rfl rfl (by decide) (by decide) fun T1 h1 b1 X1 E1 eb1 nb1 A1 => ?_
  have z1 := E1.1; have lt1 : @LT.lt Nat _ b1 h1.size := A1.lt; have zl1 : @LE.le Nat _ Z.heap.size b1 := eb1 ▸ X0.szZ; have fr1 : @LE.le Nat _ h0.size b1 := eb1 ▸ X0.sz
  refine g_astoreN X1 #[.val (.ref t), .val (.int (Int32.ofNat m)), .val (.ref b1)] d5_17 rfl rfl ?_
  refine g_aloadN X1 d5_18 rfl rfl ?_
  refine g_iconst X1 (0 : Int32) d5_19 (by decide) ?_
  refine g_aloadN X1 d5_20 rfl rfl ?_
  refine g_iconst X1 (0 : Int32) d5_21 (by decide) ?_
  refine g_aloadN X1 d5_22 rfl rfl ?_
  have A2 := (A.ext E1)
  refine g_arraylength X1 d5_23 A2 (Int32.ofNat vs.length) rfl ?_
  refine g_iloadN X1 d5_24 rfl ?_
  refine g_callSp X1 d5_25 (w78 hw) (w79 hw) (w80 hw) (w81 hw) (by decide) pd1 [(.int (Int32.ofNat vs.length)), (.int (Int32.ofNat m))] [(.int (0 : Int32)), (.ref b1), (.int (0 : Int32)), (.ref t)] 4 (c_min hw hs _ _ (Int32.ofNat vs.length) (k_min' (by omega) (by omega))) rfl rfl rfl (Nat.le_of_eq rfl) (by decide) (by decide) 1 126 rfl rfl (by decide) (by decide) fun T3 X3 => ?_
  refine g_arraycopy X3 d5_28 rfl (w82 hw) (w85 hw) (w83 hw) (w84 hw) A2 A1 rfl 0 0 vs.length (by omega) (by simp; omega) (by decide) (by decide) rfl rfl nb1 zl1 (Or.inr fr1) 0 (Nat.le_of_eq rfl) (by decide) (by decide) fun T4 h4 X4 K4 A4 => ?_
  have z4 := K4.1
  refine g_aloadN X4 d5_31 rfl rfl ?_
  exact g_areturn X4 d5_32 rfl rfl rfl (by decide) (by decide) ⟨_, rfl, rfl, fr1, nb1, by simpa [defaultValue, newarray.typeOf] using A4⟩
set_option maxRecDepth 65536 in
set_option maxHeartbeats 40000000 in
theorem c_copyOfI {nw : Bool} {l : Launch} {Z : State} {EL : List (String × Nat)} {a0 : Array Value} (hw : HW Z a0) (hs : Sts Z) {h0 : Heap} {B0 : BP} (t : Addr) (m : Nat) (vs : List Value) (A : Ay Z h0 t .int vs) (hm : m < vs.length) (hcap : m ≤ 2) :
    Con nw l Z EL (⟨"java/util/Arrays", "copyOf", "([II)[I"⟩ : MethodName) jdk_65_method_123_code 3 (some (.array .int)) [] ({ frames := 1, cells := 1, slots := 2, locals := 18 } : Room) #[(.ref t), (.int (Int32.ofNat m))] h0 B0 [] (fun v h B => ∃ r, v = some (.ref r) ∧ B0 = B ∧ h0.size ≤ r ∧ ¬ B r ∧ Ay Z h r .int (vs.take m) ∧ Exa Z h r "[I") := by
  refine k_intro (Ls := #[.val (.ref t), .val (.int (Int32.ofNat m)), .unset]) (by decide +kernel) rfl fun x T0 X0 => ?_
  have hl := A.len
  have lt_t := A.lt
  refine g_iloadN X0 d6_0 rfl ?_
  refine g_aloadN X0 d6_1 rfl rfl ?_
  refine g_arraylength X0 d6_2 A (Int32.ofNat vs.length) rfl ?_
  refine g_icmpT X0 d6_3 (XT.ii_ne_t (fun g => absurd ((k_eqn (by omega) hl).mp g) (by omega))) ?_
  refine g_iloadN X0 d6_14 rfl ?_
  refine g_newarrayE X0 d6_15 rfl (ad := "[I") (by decide) (w20 hw) m 2 rfl hcap (by decide) 1 2 rfl rfl (by decide) (by decide) fun T1 h1 b1 X1 E1 eb1 nb1 A1 Ea1 => ?_
  have z1 := E1.1; have lt1 : @LT.lt Nat _ b1 h1.size := A1.lt; have zl1 : @LE.le Nat _ Z.heap.size b1 := eb1 ▸ X0.szZ; have fr1 : @LE.le Nat _ h0.size b1 := eb1 ▸ X0.sz
  refine g_astoreN X1 #[.val (.ref t), .val (.int (Int32.ofNat m)), .val (.ref b1)] d6_17 rfl rfl ?_
  refine g_aloadN X1 d6_18 rfl rfl ?_
  refine g_iconst X1 (0 : Int32) d6_19 (by decide) ?_
  refine g_aloadN X1 d6_20 rfl rfl ?_
  refine g_iconst X1 (0 : Int32) d6_21 (by decide) ?_
  refine g_aloadN X1 d6_22 rfl rfl ?_
  have A2 := (A.ext E1)
  refine g_arraylength X1 d6_23 A2 (Int32.ofNat vs.length) rfl ?_
  refine g_iloadN X1 d6_24 rfl ?_
  refine g_callSp X1 d6_25 (w78 hw) (w79 hw) (w80 hw) (w81 hw) (by decide) pd1 [(.int (Int32.ofNat vs.length)), (.int (Int32.ofNat m))] [(.int (0 : Int32)), (.ref b1), (.int (0 : Int32)), (.ref t)] 4 (c_min hw hs _ _ (Int32.ofNat m) (k_min (by omega) (by omega))) rfl rfl rfl (Nat.le_of_eq rfl) (by decide) (by decide) 1 2 rfl rfl (by decide) (by decide) fun T3 X3 => ?_
  refine g_arraycopy X3 d6_28 rfl (w82 hw) (w85 hw) (w83 hw) (w84 hw) A2 A1 rfl 0 0 m (by omega) (by simp) (by decide) (by decide) rfl rfl nb1 zl1 (Or.inr fr1) 0 (Nat.le_of_eq rfl) (by decide) (by decide) fun T4 h4 X4 K4 A4 => ?_
  have z4 := K4.1
  refine g_aloadN X4 d6_31 rfl rfl ?_
  have E_5 := (Ea1.keep K4)
  exact g_areturn X4 d6_32 rfl rfl rfl (by decide) (by decide) ⟨_, rfl, rfl, fr1, nb1, by simpa [defaultValue, newarray.typeOf] using A4, E_5⟩
set_option maxRecDepth 65536 in
set_option maxHeartbeats 40000000 in
theorem c_intsAdd {nw : Bool} {l : Launch} {Z : State} {EL : List (String × Nat)} {a0 : Array Value} (hw : HW Z a0) (hs : Sts Z) {h0 : Heap} {B0 : BP} (i u : Addr) (c p : Int32) (ms pd : List Int32) (E_i : Exa Z h0 i "com/example/verichor/verichor/composition/Ints") (Fi_values : Fld Z h0 i "com/example/verichor/verichor/composition/Ints" "values" "[I" (.ref u)) (Fi_size : Fld Z h0 i "com/example/verichor/verichor/composition/Ints" "size" "I" (.int (Int32.ofNat ms.length))) (nb_i : ¬ B0 i) (zl_i : Z.heap.size ≤ i) (A_u : Ay Z h0 u .int ((ms ++ p :: pd).map Value.int)) (nb_u : ¬ B0 u) (zl_u : Z.heap.size ≤ u) (hx4 : ms.length + (p :: pd).length = 4) :
    Con nw l Z EL (⟨"com/example/verichor/verichor/composition/Ints", "add", "(I)V"⟩ : MethodName) prog_72_method_2_code 2 none [] ({ frames := 0, cells := 0, slots := 0, locals := 0 } : Room) #[(.ref i), (.int c)] h0 B0 [i, u] (fun v h B => v = none ∧ B0 = B ∧ Exa Z h i "com/example/verichor/verichor/composition/Ints" ∧ Fld Z h i "com/example/verichor/verichor/composition/Ints" "values" "[I" (.ref u) ∧ Fld Z h i "com/example/verichor/verichor/composition/Ints" "size" "I" (.int (Int32.ofNat (ms ++ [c]).length)) ∧ Ay Z h u .int (((ms ++ [c]) ++ pd).map Value.int)) := by
  refine k_intro (Ls := #[.val (.ref i), .val (.int c)]) (by decide +kernel) rfl fun x T0 X0 => ?_
  have lt_i := k_ltE E_i
  have lt_u := A_u.lt
  have niu : i ≠ u := Ay.ne E_i (w14 hw) A_u
  have hul : ((ms ++ p :: pd).map Value.int).length = 4 := by simpa using hx4
  simp at hx4
  refine g_aloadN X0 d7_0 rfl rfl ?_
  refine g_getfield X0 d7_1 (w40 hw) Via.refl Fi_size fun T1 X1 => ?_
  refine g_aloadN X1 d7_4 rfl rfl ?_
  refine g_getfield X1 d7_5 (w21 hw) Via.refl Fi_values fun T2 X2 => ?_
  refine g_arraylength X2 d7_8 A_u (Int32.ofNat 4) (by rw [hul]) ?_
  refine g_icmpT X2 d7_9 (XT.ii_ne_t (fun g => absurd ((k_eqn (by omega) (by decide)).mp g) (by omega))) ?_
  refine g_aloadN X2 d7_29 rfl rfl ?_
  refine g_getfield X2 d7_30 (w21 hw) Via.refl Fi_values fun T3 X3 => ?_
  refine g_aloadN X3 d7_33 rfl rfl ?_
  refine g_dup X3 d7_34 rfl ?_
  refine g_getfield X3 d7_35 (w40 hw) Via.refl Fi_size fun T4 X4 => ?_
  refine g_dup_x1 X4 d7_38 rfl rfl ?_
  refine g_iconst X4 (1 : Int32) d7_39 (by decide) ?_
  refine g_iadd X4 (Int32.ofNat (ms ++ [c]).length) d7_40 (by simp) ?_
  refine g_putfield X4 d7_41 (w40 hw) Via.refl Fi_size E_i (Or.inl (w41 hw)) (w14 hw) (ty := .int) (v' := (.int (Int32.ofNat (ms ++ [c]).length))) (by decide) rfl rfl nb_i zl_i (Or.inl (List.mem_of_getElem? (i := 0) rfl)) fun T5 h5 X5 W5 => ?_
  have z5 := W5.size; have Fw5 := Fi_size.same W5
  refine g_iloadN X5 d7_44 rfl ?_
  have A6 := (A_u.keep (Keep.of_wr W5) (ninS (Ne.symm niu) nin0))
  refine g_iastore X5 d7_45 A6 ms.length rfl c rfl (by rw [hul]; omega) nb_u zl_u (Or.inl (List.mem_of_getElem? (i := 1) rfl)) fun T7 h7 X7 K7 A7 => ?_
  have z7 := K7.1
  have A7b : Ay Z h7 u .int (((ms ++ [c]) ++ pd).map Value.int) := by simpa using A7
  have E_8 := ((E_i.wr W5).keep K7)
  have F9 := ((Fi_values.other W5 (Or.inr (slot_ne (Or.inl (w22 hw)) (Or.inl (w41 hw)) (by decide) (t := (.array .int)) (t' := .int) (by decide) (by decide)))).keep K7 (ninS niu nin0))
  have F10 := (Fw5.keep K7 (ninS niu nin0))
  exact g_return X7 d7_46 (by decide) (by decide) ⟨rfl, rfl, E_8, F9, F10, A7b⟩
set_option maxRecDepth 65536 in
set_option maxHeartbeats 40000000 in
theorem c_add {nw : Bool} {l : Launch} {Z : State} {EL : List (String × Nat)} {a0 : Array Value} (hw : HW Z a0) (hs : Sts Z) {h0 : Heap} {B0 : BP} (b i t u : Addr) (q : Nat) (p : Int32) (L : List Int64) (ms pd : List Int32) (S : BS Z h0 b i t u L ms (p :: pd)) (hq : q < 4096) (hx4 : ms.length + (p :: pd).length = 4) (hL : L.length ≤ 126) (nb_b : ¬ B0 b) (zl_b : Z.heap.size ≤ b) (nb_i : ¬ B0 i) (zl_i : Z.heap.size ≤ i) (nb_t : ¬ B0 t) (zl_t : Z.heap.size ≤ t) (nb_u : ¬ B0 u) (zl_u : Z.heap.size ≤ u) (ntu : @Ne Nat t u)  :
    Con nw l Z EL (⟨"com/example/verichor/verichor/explore/StateSet$Builder", "add", "(I)Z"⟩ : MethodName) prog_218_method_3_code 3 (some .boolean) [] ({ frames := 2, cells := 1, slots := 126, locals := 33 } : Room) #[(.ref b), (.int (Int32.ofNat q))] h0 B0 [b, i, t, u] (fun v h B => ∃ r t' L' ms' pd', v = some (.int r) ∧ B0 = B ∧ (t' = t ∨ h0.size ≤ t') ∧ ¬ B t' ∧ Z.heap.size ≤ t' ∧ @Ne Nat t' u ∧ L'.length ≤ 126 ∧ BS Z h b i t' u L' ms' pd' ∧ ((bit L q ∧ L' = L ∧ ms' = ms ∧ pd' = p :: pd) ∨ (¬ bit L q ∧ ms' = ms ++ [Int32.ofNat q] ∧ pd' = pd ∧ ∀ z, bit L' z ↔ bit L z ∨ z = q))) := by
  refine k_intro (Ls := #[.val (.ref b), .val (.int (Int32.ofNat q)), .unset]) (by decide +kernel) rfl fun x T0 X0 => ?_
  obtain ⟨E_b, Fb_added, Fb_members, E_i, Fi_values, Fi_size, A_t, A_u⟩ := S.op
  have lt_b := k_ltE E_b; have lt_i := k_ltE E_i; have lt_t := A_t.lt; have lt_u := A_u.lt
  have nbi : b ≠ i := ne_exa E_b E_i (by decide)
  have nbt : b ≠ t := Ay.ne E_b (w2 hw) A_t
  have nbu : b ≠ u := Ay.ne E_b (w2 hw) A_u
  have nit : i ≠ t := Ay.ne E_i (w14 hw) A_t
  have niu : i ≠ u := Ay.ne E_i (w14 hw) A_u
  have hl : L.length < 2 ^ 31 := by omega
  refine g_aloadN X0 d8_0 rfl rfl ?_
  refine g_iloadN X0 d8_1 rfl ?_
  refine g_callVp X0 d8_2 (w30 hw) (w31 hw) (w33 hw) (w32 hw) (w3 hw) (w34 hw) (by decide) pd2 b [(.int (Int32.ofNat q))] [] 0 E_b (c_contains hw hs b i t u q L ms _ S (by omega)) rfl rfl rfl (Nat.le_of_eq rfl) (by decide) (by decide) 0 0 rfl rfl (by decide) (by decide) fun T1 X1 => ?_
  by_cases hb : bit L q
  ·
    refine g_ifF X1 d8_5 (XT.i0_eq_f (by rw [if_pos hb]; decide)) ?_
    refine g_iconst X1 (0 : Int32) d8_8 (by decide) ?_
    exact g_ireturn (w' := (0 : Int32)) X1 d8_9 (Or.inl rfl) (by decide) (by decide) (by decide) ⟨_, t, L, ms, _, rfl, rfl, Or.inl rfl, nb_t, zl_t, ntu, hL, S, Or.inl ⟨hb, rfl, rfl, rfl⟩⟩
  ·
    refine g_ifT X1 d8_5 (XT.i0_eq_t (by rw [if_neg hb])) ?_
    refine g_iloadN X1 d8_10 rfl ?_
    refine g_bipush X1 (64 : Int32) d8_11 (by decide) ?_
    refine g_idiv X1 (Int32.ofNat (q / 64)) d8_13 (by decide) (k_div64 (by omega)) ?_
    refine g_istoreN X1 #[.val (.ref b), .val (.int (Int32.ofNat q)), .val (.int (Int32.ofNat (q / 64)))] d8_14 rfl ?_
    refine g_iloadN X1 d8_15 rfl ?_
    refine g_aloadN X1 d8_16 rfl rfl ?_
    refine g_getfield X1 d8_17 (w11 hw) Via.refl Fb_added fun T2 X2 => ?_
    refine g_arraylength X2 d8_20 A_t (Int32.ofNat L.length) (by simp) ?_
    have rest : ∀ (t' : Addr) (L1 : List Int64) (hw' : t' ∈ [b, i, t, u] ∨ h0.size ≤ t') (ht' : t' = t ∨ h0.size ≤ t') (nb_t' : ¬ B0 t') (zl_t' : Z.heap.size ≤ t') (ntu' : @Ne Nat t' u) (hL1 : L1.length ≤ 126) (hin : q / 64 < L1.length) (hbit : ∀ z, bit L1 z ↔ bit L z) (T : State) (h : Heap) (X : Wk nw l Z EL "com/example/verichor/verichor/explore/StateSet$Builder" prog_218_method_3_code 3 (some .boolean) "add" ({ frames := 2, cells := 1, slots := 126, locals := 33 } : Room) h0 B0 [b, i, t, u] (fun v h B => ∃ r t' L' ms' pd', v = some (.int r) ∧ B0 = B ∧ (t' = t ∨ h0.size ≤ t') ∧ ¬ B t' ∧ Z.heap.size ≤ t' ∧ @Ne Nat t' u ∧ L'.length ≤ 126 ∧ BS Z h b i t' u L' ms' pd' ∧ ((bit L q ∧ L' = L ∧ ms' = ms ∧ pd' = p :: pd) ∨ (¬ bit L q ∧ ms' = ms ++ [Int32.ofNat q] ∧ pd' = pd ∧ ∀ z, bit L' z ↔ bit L z ∨ z = q))) x T h B0 1 126) (S' : BS Z h b i t' u L1 ms (p :: pd)), Go x (T.setTop (mkF x.m 48 #[.val (.ref b), .val (.int (Int32.ofNat q)), .val (.int (Int32.ofNat (q / 64)))] [])) := by
      intro t' L1 hw' ht' nb_t' zl_t' ntu' hL1 hin hbit T h X S'
      clear E_b Fb_added Fb_members E_i Fi_values Fi_size A_t A_u lt_b lt_i lt_t lt_u nbi nbt nbu nit niu nb_t zl_t
      obtain ⟨E_b, Fb_added, Fb_members, E_i, Fi_values, Fi_size, A_t, A_u⟩ := S'.op
      have lt_b := k_ltE E_b; have lt_i := k_ltE E_i; have lt_t := A_t.lt; have lt_u := A_u.lt
      have nb_t := nb_t'; have zl_t := zl_t'
      have nbi : b ≠ i := ne_exa E_b E_i (by decide)
      have nbt : b ≠ t' := Ay.ne E_b (w2 hw) A_t
      have nbu : b ≠ u := Ay.ne E_b (w2 hw) A_u
      have nit : i ≠ t' := Ay.ne E_i (w14 hw) A_t
      have niu : i ≠ u := Ay.ne E_i (w14 hw) A_u
      refine g_aloadN X d8_48 rfl rfl ?_
      refine g_getfield X d8_49 (w11 hw) Via.refl Fb_added fun T3 X3 => ?_
      refine g_iloadN X3 d8_52 rfl ?_
      refine g_dup2 X3 d8_53 rfl rfl ?_
      refine g_laload X3 d8_54 A_t (q / 64) rfl (v := .long L1[q / 64]) (by simp [hin]) ?_
      refine g_lconst X3 (1 : Int64) d8_55 (by decide) ?_
      refine g_iloadN X3 d8_56 rfl ?_
      refine g_bipush X3 (64 : Int32) d8_57 (by decide) ?_
      refine g_irem X3 (Int32.ofNat (q % 64)) d8_59 (by decide) (k_mod64 (by omega)) ?_
      refine g_lshl X3 (pw (q % 64)) d8_60 rfl ?_
      refine g_lor X3 ((L1[q / 64]) ||| (pw (q % 64))) d8_61 rfl ?_
      refine g_lastore X3 d8_62 A_t (q / 64) rfl ((L1[q / 64]) ||| (pw (q % 64))) rfl (by simpa using hin) nb_t zl_t hw' fun T4 h4 X4 K4 A4 => ?_
      have z4 := K4.1
      have A4b : Ay Z h4 t' .long ((L1.set (q / 64) (L1[q / 64] ||| pw (q % 64))).map Value.long) := by rw [List.map_set]; exact A4
      refine g_aloadN X4 d8_63 rfl rfl ?_
      have F5 := (Fb_members.keep K4 (ninS nbt nin0))
      refine g_getfield X4 d8_64 (w23 hw) Via.refl F5 fun T6 X6 => ?_
      refine g_iloadN X6 d8_67 rfl ?_
      have E_7 := (E_i.keep K4)
      have F8 := (Fi_values.keep K4 (ninS nit nin0))
      have F9 := (Fi_size.keep K4 (ninS nit nin0))
      have A10 := (A_u.keep K4 (ninS (Ne.symm ntu') nin0))
      refine g_callV X6 d8_68 (w35 hw) (w36 hw) (w38 hw) (w37 hw) (w15 hw) (w39 hw) (by decide) pd3 i [(.int (Int32.ofNat q))] [] 0 E_7 (c_intsAdd hw hs i u (Int32.ofNat q) p ms pd E_7 F8 F9 nb_i zl_i A10 nb_u zl_u hx4) rfl rfl rfl (Nat.le_of_eq rfl) (by decide) (by decide) 1 126 rfl rfl (by decide) (by decide) (k_wsC ⟨nb_i, zl_i, (Or.inl (List.mem_of_getElem? (i := 1) rfl))⟩ (k_wsC ⟨nb_u, zl_u, (Or.inl (List.mem_of_getElem? (i := 3) rfl))⟩ (fun _ q => nomatch q))) fun v11 T11 h11 B11 X11 K11 M11 q11 => ?_
      obtain ⟨rfl, rfl, Ei', Fv', Fs', Au'⟩ := q11
      have z11 := K11.1
      show Go x (T11.setTop (mkF x.m 71 #[.val (.ref b), .val (.int (Int32.ofNat q)), .val (.int (Int32.ofNat (q / 64)))] []))
      refine g_iconst X11 (1 : Int32) d8_71 (by decide) ?_
      have E_12 := ((E_b.keep K4).keep K11)
      have F13 := ((Fb_added.keep K4 (ninS nbt nin0)).keep K11 (ninS nbi (ninS nbu nin0)))
      have F14 := (F5.keep K11 (ninS nbi (ninS nbu nin0)))
      have A15 := (A4b.keep K11 (ninS (Ne.symm nit) (ninS ntu' nin0)))
      exact g_ireturn (w' := (1 : Int32)) X11 d8_72 (Or.inl rfl) (by decide) (by decide) (by decide) ⟨_, t', _, _, _, rfl, rfl, ht', nb_t', zl_t', ntu', by simpa using hL1, ⟨E_12, F13, F14, Ei', Fv', Fs', A15, Au'⟩, Or.inr ⟨hb, rfl, rfl, fun z => by rw [bit_set hin, hbit]⟩⟩
    by_cases hlt : (Int32.ofNat (q / 64)) < (Int32.ofNat L.length)
    ·
      refine g_icmpT X2 d8_21 (XT.ii_lt_t hlt) ?_
      exact rest t L (Or.inl (List.mem_of_getElem? (i := 2) rfl)) (Or.inl rfl) nb_t zl_t ntu hL ((k_litlt (by omega) hl).mp hlt) (fun z => Iff.rfl) T2 h0 (X2.more (by decide) (by decide)) S
    ·
      refine g_icmpF X2 d8_21 (XT.ii_lt_f hlt) ?_
      have hge : L.length ≤ q / 64 := Nat.not_lt.mp fun g => hlt ((k_litlt (by omega) hl).mpr g)
      refine g_aloadN X2 d8_24 rfl rfl ?_
      refine g_aloadN X2 d8_25 rfl rfl ?_
      refine g_getfield X2 d8_26 (w11 hw) Via.refl Fb_added fun T16 X16 => ?_
      refine g_iloadN X16 d8_29 rfl ?_
      refine g_iconst X16 (1 : Int32) d8_30 (by decide) ?_
      refine g_iadd X16 (Int32.ofNat (q / 64 + 1)) d8_31 (k_add _ 1) ?_
      refine g_iconst X16 (2 : Int32) d8_32 (by decide) ?_
      refine g_aloadN X16 d8_33 rfl rfl ?_
      refine g_getfield X16 d8_34 (w11 hw) Via.refl Fb_added fun T17 X17 => ?_
      refine g_arraylength X17 d8_37 A_t (Int32.ofNat L.length) (by simp) ?_
      refine g_imul X17 (Int32.ofNat (2 * L.length)) d8_38 (k_mul2 _) ?_
      refine g_callSp X17 d8_39 (w111 hw) (w112 hw) (w80 hw) (w113 hw) (by decide) pd1 [(.int (Int32.ofNat (q / 64 + 1))), (.int (Int32.ofNat (2 * L.length)))] [(.ref t), (.ref b)] 2 (c_max hw hs _ _ (Int32.ofNat (max (q / 64 + 1) (2 * L.length))) (k_max (by omega) (by omega))) rfl rfl rfl (Nat.le_of_eq rfl) (by decide) (by decide) 0 0 rfl rfl (by decide) (by decide) fun T18 X18 => ?_
      refine g_callS X18 d8_42 (w114 hw) (w115 hw) (w55 hw) (w116 hw) (by decide) pd4 [(.ref t), (.int (Int32.ofNat (max (q / 64 + 1) (2 * L.length))))] [(.ref b)] 1 (c_copyOfJ hw hs t (max (q / 64 + 1) (2 * L.length)) (L.map Value.long) A_t (by simp; omega) (by omega)) rfl rfl rfl (Nat.le_of_eq rfl) (by decide) (by decide) 1 126 rfl rfl (by decide) (by decide) (fun _ q => nomatch q) fun v19 T19 h19 B19 X19 K19 M19 q19 => ?_
      obtain ⟨r, rfl, rfl, fr, nbr, Ar⟩ := q19
      have z19 := K19.1
      show Go x (T19.setTop (mkF x.m 45 #[.val (.ref b), .val (.int (Int32.ofNat q)), .val (.int (Int32.ofNat (q / 64)))] [(.ref r), (.ref b)]))
      have lt_r := Ar.lt
      have F20 := (Fb_added.keep K19 nin0)
      have E_21 := (E_b.keep K19)
      refine g_putfield X19 d8_45 (w11 hw) Via.refl F20 E_21 (Or.inl (w12 hw)) (w2 hw) (ty := (.array .long)) (v' := (.ref r)) (by decide) rfl rfl nb_b zl_b (Or.inl (List.mem_of_getElem? (i := 0) rfl)) fun T22 h22 X22 W22 => ?_
      have z22 := W22.size; have Fw22 := F20.same W22
      have A23 := (Ar.keep (Keep.of_wr W22) (ninS (k_neN (by omega)) nin0))
      have Ar' : Ay Z h22 r .long ((L ++ List.replicate (max (q / 64 + 1) (2 * L.length) - L.length) 0).map Value.long) := by simpa using A23
      have E_24 := (E_21.wr W22)
      have F25 := ((Fb_members.keep K19 nin0).other W22 (Or.inr (slot_ne (Or.inr (w24 hw)) (Or.inl (w12 hw)) (by decide) (t := (.object "com/example/verichor/verichor/composition/Ints")) (t' := (.array .long)) (by decide) (by decide))))
      have E_26 := ((E_i.keep K19).wr W22)
      have F27 := ((Fi_values.keep K19 nin0).other W22 (Or.inl (Ne.symm nbi)))
      have F28 := ((Fi_size.keep K19 nin0).other W22 (Or.inl (Ne.symm nbi)))
      have A29 := ((A_u.keep K19 nin0).keep (Keep.of_wr W22) (ninS (Ne.symm nbu) nin0))
      exact rest r (L ++ List.replicate (max (q / 64 + 1) (2 * L.length) - L.length) 0) (Or.inr fr) (Or.inr fr) nbr (Nat.le_trans X0.szZ fr) (by omega) (by simp; omega) (by simp; omega) (fun z => bit_pad) T22 h22 X22 ⟨E_24, Fw22, F25, E_26, F27, F28, Ar', A29⟩
set_option maxRecDepth 65536 in
set_option maxHeartbeats 40000000 in
theorem c_rangeCheck {nw : Bool} {l : Launch} {Z : State} {EL : List (String × Nat)} {a0 : Array Value} (hw : HW Z a0) (hs : Sts Z) {h0 : Heap} {B0 : BP} (m : Int32) (h1 : m = 1 ∨ m = 2) :
    Con nw l Z EL (⟨"java/util/Arrays", "rangeCheck", "(III)V"⟩ : MethodName) jdk_65_method_30_code 3 none [] ({ frames := 0, cells := 0, slots := 0, locals := 0 } : Room) #[(.int (4 : Int32)), (.int (0 : Int32)), (.int m)] h0 B0 [] (PQ none h0 B0) := by
  refine k_intro (Ls := #[.val (.int (4 : Int32)), .val (.int (0 : Int32)), .val (.int m)]) (by decide +kernel) rfl fun x T0 X0 => ?_
  refine g_iloadN X0 d9_0 rfl ?_
  refine g_iloadN X0 d9_1 rfl ?_
  refine g_icmpT X0 d9_2 (XT.ii_le_t (by rcases h1 with rfl | rfl <;> decide)) ?_
  refine g_iloadN X0 d9_46 rfl ?_
  refine g_ifT X0 d9_47 (by decide) ?_
  refine g_iloadN X0 d9_59 rfl ?_
  refine g_iloadN X0 d9_60 rfl ?_
  refine g_icmpT X0 d9_61 (XT.ii_le_t (by rcases h1 with rfl | rfl <;> decide)) ?_
  exact g_return X0 d9_73 (by decide) (by decide) ⟨rfl, rfl, rfl⟩
set_option maxRecDepth 65536 in
set_option maxHeartbeats 40000000 in
theorem c_insertion1 {nw : Bool} {l : Launch} {Z : State} {EL : List (String × Nat)} {a0 : Array Value} (hw : HW Z a0) (hs : Sts Z) {h0 : Heap} {B0 : BP} (u : Addr) (c d e f : Int32) (A : Ay Z h0 u .int [.int c, .int d, .int e, .int f]) (nb_u : ¬ B0 u) (zl_u : Z.heap.size ≤ u) :
    Con nw l Z EL (⟨"java/util/DualPivotQuicksort", "insertionSort", "([III)V"⟩ : MethodName) jdk_2529_method_6_code 6 none [] ({ frames := 0, cells := 0, slots := 0, locals := 0 } : Room) #[(.ref u), (.int (0 : Int32)), (.int (1 : Int32))] h0 B0 [u] (fun v h B => v = none ∧ B0 = B ∧ Ay Z h u .int [.int c, .int d, .int e, .int f]) := by
  refine k_intro (Ls := #[.val (.ref u), .val (.int (0 : Int32)), .val (.int (1 : Int32)), .unset, .unset, .unset]) (by decide +kernel) rfl fun x T0 X0 => ?_
  have lt_u := A.lt
  refine g_iloadN X0 d10_0 rfl ?_
  refine g_istore X0 #[.val (.ref u), .val (.int (0 : Int32)), .val (.int (1 : Int32)), .unset, .val (.int (0 : Int32)), .unset] d10_1 rfl ?_
  refine g_iinc X0 #[.val (.ref u), .val (.int (0 : Int32)), .val (.int (1 : Int32)), .unset, .val (.int (1 : Int32)), .unset] d10_3 rfl (by decide) rfl ?_
  refine g_iload X0 d10_6 rfl ?_
  refine g_iloadN X0 d10_8 rfl ?_
  refine g_icmpT X0 d10_9 (by decide) ?_
  exact g_return X0 d10_67 (by decide) (by decide) ⟨rfl, rfl, A⟩
set_option maxRecDepth 65536 in
set_option maxHeartbeats 40000000 in
theorem c_sortBig1 {nw : Bool} {l : Launch} {Z : State} {EL : List (String × Nat)} {a0 : Array Value} (hw : HW Z a0) (hs : Sts Z) {h0 : Heap} {B0 : BP} (u : Addr) (c d e f : Int32) (A : Ay Z h0 u .int [.int c, .int d, .int e, .int f]) (nb_u : ¬ B0 u) (zl_u : Z.heap.size ≤ u) :
    Con nw l Z EL (⟨"java/util/DualPivotQuicksort", "sort", "(Ljava/util/DualPivotQuicksort$Sorter;[IIII)V"⟩ : MethodName) jdk_2529_method_4_code 21 none [] ({ frames := 1, cells := 0, slots := 0, locals := 17 } : Room) #[.null, (.ref u), (.int (0 : Int32)), (.int (0 : Int32)), (.int (1 : Int32))] h0 B0 [u] (fun v h B => v = none ∧ B0 = B ∧ Ay Z h u .int [.int c, .int d, .int e, .int f]) := by
  refine k_intro (Ls := #[.val .null, .val (.ref u), .val (.int (0 : Int32)), .val (.int (0 : Int32)), .val (.int (1 : Int32)), .unset, .unset, .unset, .unset, .unset, .unset, .unset, .unset, .unset, .unset, .unset, .unset, .unset, .unset, .unset, .unset]) (by decide +kernel) rfl fun x T0 X0 => ?_
  refine g_iload X0 d11_0 rfl ?_
  refine g_iconst X0 (1 : Int32) d11_2 (by decide) ?_
  refine g_isub X0 (0 : Int32) d11_3 (by decide) ?_
  refine g_istore X0 #[.val .null, .val (.ref u), .val (.int (0 : Int32)), .val (.int (0 : Int32)), .val (.int (1 : Int32)), .val (.int (0 : Int32)), .unset, .unset, .unset, .unset, .unset, .unset, .unset, .unset, .unset, .unset, .unset, .unset, .unset, .unset, .unset] d11_4 rfl ?_
  refine g_iload X0 d11_6 rfl ?_
  refine g_iloadN X0 d11_8 rfl ?_
  refine g_isub X0 (1 : Int32) d11_9 (by decide) ?_
  refine g_istore X0 #[.val .null, .val (.ref u), .val (.int (0 : Int32)), .val (.int (0 : Int32)), .val (.int (1 : Int32)), .val (.int (0 : Int32)), .val (.int (1 : Int32)), .unset, .unset, .unset, .unset, .unset, .unset, .unset, .unset, .unset, .unset, .unset, .unset, .unset, .unset] d11_10 rfl ?_
  refine g_iload X0 d11_12 rfl ?_
  refine g_bipush X0 (65 : Int32) d11_14 (by decide) ?_
  refine g_iloadN X0 d11_16 rfl ?_
  refine g_iadd X0 (65 : Int32) d11_17 (by decide) ?_
  refine g_icmpF X0 d11_18 (by decide) ?_
  refine g_iloadN X0 d11_21 rfl ?_
  refine g_iconst X0 (1 : Int32) d11_22 (by decide) ?_
  refine g_iand X0 (0 : Int32) d11_23 (by decide) ?_
  refine g_ifT X0 d11_24 (by decide) ?_
  refine g_iload X0 d11_46 rfl ?_
  refine g_bipush X0 (44 : Int32) d11_48 (by decide) ?_
  refine g_icmpF X0 d11_50 (by decide) ?_
  refine g_aloadN X0 d11_53 rfl rfl ?_
  refine g_iloadN X0 d11_54 rfl ?_
  refine g_iload X0 d11_55 rfl ?_
  refine g_callS X0 d11_57 (w67 hw) (w68 hw) (w62 hw) (w69 hw) (by decide) pd5 [(.ref u), (.int (0 : Int32)), (.int (1 : Int32))] [] 0 (c_insertion1 hw hs u c d e f A nb_u zl_u) rfl rfl rfl (Nat.le_of_eq rfl) (by decide) (by decide) 0 0 rfl rfl (by decide) (by decide) (k_ws1 ⟨nb_u, zl_u, (Or.inl (List.mem_of_getElem? (i := 0) rfl))⟩) fun v1 T1 h1 B1 X1 K1 M1 q1 => ?_
  obtain ⟨rfl, rfl, R⟩ := q1
  have z1 := K1.1
  show Go x (T1.setTop (mkF x.m 60 #[.val .null, .val (.ref u), .val (.int (0 : Int32)), .val (.int (0 : Int32)), .val (.int (1 : Int32)), .val (.int (0 : Int32)), .val (.int (1 : Int32)), .unset, .unset, .unset, .unset, .unset, .unset, .unset, .unset, .unset, .unset, .unset, .unset, .unset, .unset] []))
  exact g_return X1 d11_60 (by decide) (by decide) ⟨rfl, rfl, R⟩
set_option maxRecDepth 65536 in
set_option maxHeartbeats 40000000 in
theorem c_sortDP1 {nw : Bool} {l : Launch} {Z : State} {EL : List (String × Nat)} {a0 : Array Value} (hw : HW Z a0) (hs : Sts Z) {h0 : Heap} {B0 : BP} (u : Addr) (c d e f : Int32) (A : Ay Z h0 u .int [.int c, .int d, .int e, .int f]) (nb_u : ¬ B0 u) (zl_u : Z.heap.size ≤ u) :
    Con nw l Z EL (⟨"java/util/DualPivotQuicksort", "sort", "([IIII)V"⟩ : MethodName) jdk_2529_method_3_code 7 none [] ({ frames := 2, cells := 0, slots := 0, locals := 49 } : Room) #[(.ref u), (.int (0 : Int32)), (.int (0 : Int32)), (.int (1 : Int32))] h0 B0 [u] (fun v h B => v = none ∧ B0 = B ∧ Ay Z h u .int [.int c, .int d, .int e, .int f]) := by
  refine k_intro (Ls := #[.val (.ref u), .val (.int (0 : Int32)), .val (.int (0 : Int32)), .val (.int (1 : Int32)), .unset, .unset, .unset]) (by decide +kernel) rfl fun x T0 X0 => ?_
  refine g_iloadN X0 d12_0 rfl ?_
  refine g_iloadN X0 d12_1 rfl ?_
  refine g_isub X0 (1 : Int32) d12_2 (by decide) ?_
  refine g_istore X0 #[.val (.ref u), .val (.int (0 : Int32)), .val (.int (0 : Int32)), .val (.int (1 : Int32)), .val (.int (1 : Int32)), .unset, .unset] d12_3 rfl ?_
  refine g_iloadN X0 d12_5 rfl ?_
  refine g_iconst X0 (1 : Int32) d12_6 (by decide) ?_
  refine g_icmpT X0 d12_7 (by decide) ?_
  refine g_aconst_null X0 d12_68 ?_
  refine g_aloadN X0 d12_69 rfl rfl ?_
  refine g_iconst X0 (0 : Int32) d12_70 (by decide) ?_
  refine g_iloadN X0 d12_71 rfl ?_
  refine g_iloadN X0 d12_72 rfl ?_
  refine g_callS X0 d12_73 (w64 hw) (w65 hw) (w62 hw) (w66 hw) (by decide) pd6 [.null, (.ref u), (.int (0 : Int32)), (.int (0 : Int32)), (.int (1 : Int32))] [] 0 (c_sortBig1 hw hs u c d e f A nb_u zl_u) rfl rfl rfl (Nat.le_of_eq rfl) (by decide) (by decide) 0 0 rfl rfl (by decide) (by decide) (k_ws1 ⟨nb_u, zl_u, (Or.inl (List.mem_of_getElem? (i := 0) rfl))⟩) fun v1 T1 h1 B1 X1 K1 M1 q1 => ?_
  obtain ⟨rfl, rfl, R⟩ := q1
  have z1 := K1.1
  show Go x (T1.setTop (mkF x.m 76 #[.val (.ref u), .val (.int (0 : Int32)), .val (.int (0 : Int32)), .val (.int (1 : Int32)), .val (.int (1 : Int32)), .unset, .unset] []))
  exact g_return X1 d12_76 (by decide) (by decide) ⟨rfl, rfl, R⟩
set_option maxRecDepth 65536 in
set_option maxHeartbeats 40000000 in
theorem c_sortAr1 {nw : Bool} {l : Launch} {Z : State} {EL : List (String × Nat)} {a0 : Array Value} (hw : HW Z a0) (hs : Sts Z) {h0 : Heap} {B0 : BP} (u : Addr) (c d e f : Int32) (A : Ay Z h0 u .int [.int c, .int d, .int e, .int f]) (nb_u : ¬ B0 u) (zl_u : Z.heap.size ≤ u) :
    Con nw l Z EL (⟨"java/util/Arrays", "sort", "([III)V"⟩ : MethodName) jdk_65_method_3_code 3 none [] ({ frames := 3, cells := 0, slots := 0, locals := 67 } : Room) #[(.ref u), (.int (0 : Int32)), (.int (1 : Int32))] h0 B0 [u] (fun v h B => v = none ∧ B0 = B ∧ Ay Z h u .int [.int c, .int d, .int e, .int f]) := by
  refine k_intro (Ls := #[.val (.ref u), .val (.int (0 : Int32)), .val (.int (1 : Int32))]) (by decide +kernel) rfl fun x T0 X0 => ?_
  refine g_aloadN X0 d13_0 rfl rfl ?_
  refine g_arraylength X0 d13_1 A (4 : Int32) rfl ?_
  refine g_iloadN X0 d13_2 rfl ?_
  refine g_iloadN X0 d13_3 rfl ?_
  refine g_callSp0 X0 d13_4 (w57 hw) (w58 hw) (w55 hw) (w59 hw) (by decide) pd7 [(.int (4 : Int32)), (.int (0 : Int32)), (.int (1 : Int32))] [] 0 (c_rangeCheck hw hs 1 (Or.inl rfl)) rfl rfl rfl (Nat.le_of_eq rfl) (by decide) (by decide) 0 0 rfl rfl (by decide) (by decide) fun T1 X1 => ?_
  refine g_aloadN X1 d13_7 rfl rfl ?_
  refine g_iconst X1 (0 : Int32) d13_8 (by decide) ?_
  refine g_iloadN X1 d13_9 rfl ?_
  refine g_iloadN X1 d13_10 rfl ?_
  refine g_callS X1 d13_11 (w60 hw) (w61 hw) (w62 hw) (w63 hw) (by decide) pd8 [(.ref u), (.int (0 : Int32)), (.int (0 : Int32)), (.int (1 : Int32))] [] 0 (c_sortDP1 hw hs u c d e f A nb_u zl_u) rfl rfl rfl (Nat.le_of_eq rfl) (by decide) (by decide) 0 0 rfl rfl (by decide) (by decide) (k_ws1 ⟨nb_u, zl_u, (Or.inl (List.mem_of_getElem? (i := 0) rfl))⟩) fun v2 T2 h2 B2 X2 K2 M2 q2 => ?_
  obtain ⟨rfl, rfl, R⟩ := q2
  have z2 := K2.1
  show Go x (T2.setTop (mkF x.m 14 #[.val (.ref u), .val (.int (0 : Int32)), .val (.int (1 : Int32))] []))
  exact g_return X2 d13_14 (by decide) (by decide) ⟨rfl, rfl, R⟩
set_option maxRecDepth 65536 in
set_option maxHeartbeats 40000000 in
theorem c_intsSort1 {nw : Bool} {l : Launch} {Z : State} {EL : List (String × Nat)} {a0 : Array Value} (hw : HW Z a0) (hs : Sts Z) {h0 : Heap} {B0 : BP} (i u : Addr) (c d e f : Int32) (F1 : Fld Z h0 i "com/example/verichor/verichor/composition/Ints" "values" "[I" (.ref u)) (F2 : Fld Z h0 i "com/example/verichor/verichor/composition/Ints" "size" "I" (.int 1)) (A : Ay Z h0 u .int [.int c, .int d, .int e, .int f]) (nb_u : ¬ B0 u) (zl_u : Z.heap.size ≤ u) :
    Con nw l Z EL (⟨"com/example/verichor/verichor/composition/Ints", "sort", "()V"⟩ : MethodName) prog_72_method_7_code 1 none [] ({ frames := 4, cells := 0, slots := 0, locals := 81 } : Room) #[(.ref i)] h0 B0 [u] (fun v h B => v = none ∧ B0 = B ∧ Ay Z h u .int [.int c, .int d, .int e, .int f]) := by
  refine k_intro (Ls := #[.val (.ref i)]) (by decide +kernel) rfl fun x T0 X0 => ?_
  refine g_aloadN X0 d14_0 rfl rfl ?_
  refine g_getfield X0 d14_1 (w21 hw) Via.refl F1 fun T1 X1 => ?_
  refine g_iconst X1 (0 : Int32) d14_4 (by decide) ?_
  refine g_aloadN X1 d14_5 rfl rfl ?_
  refine g_getfield X1 d14_6 (w40 hw) Via.refl F2 fun T2 X2 => ?_
  refine g_callS X2 d14_9 (w53 hw) (w54 hw) (w55 hw) (w56 hw) (by decide) pd5 [(.ref u), (.int (0 : Int32)), (.int (1 : Int32))] [] 0 (c_sortAr1 hw hs u c d e f A nb_u zl_u) rfl rfl rfl (Nat.le_of_eq rfl) (by decide) (by decide) 0 0 rfl rfl (by decide) (by decide) (k_ws1 ⟨nb_u, zl_u, (Or.inl (List.mem_of_getElem? (i := 0) rfl))⟩) fun v3 T3 h3 B3 X3 K3 M3 q3 => ?_
  obtain ⟨rfl, rfl, R⟩ := q3
  have z3 := K3.1
  show Go x (T3.setTop (mkF x.m 12 #[.val (.ref i)] []))
  exact g_return X3 d14_12 (by decide) (by decide) ⟨rfl, rfl, R⟩
set_option maxRecDepth 65536 in
set_option maxHeartbeats 40000000 in
theorem c_insertion2 {nw : Bool} {l : Launch} {Z : State} {EL : List (String × Nat)} {a0 : Array Value} (hw : HW Z a0) (hs : Sts Z) {h0 : Heap} {B0 : BP} (u : Addr) (c d e f : Int32) (A : Ay Z h0 u .int [.int c, .int d, .int e, .int f]) (nb_u : ¬ B0 u) (zl_u : Z.heap.size ≤ u) (hne : c ≠ d) :
    Con nw l Z EL (⟨"java/util/DualPivotQuicksort", "insertionSort", "([III)V"⟩ : MethodName) jdk_2529_method_6_code 6 none [] ({ frames := 0, cells := 0, slots := 0, locals := 0 } : Room) #[(.ref u), (.int (0 : Int32)), (.int (2 : Int32))] h0 B0 [u] (fun v h B => v = none ∧ B0 = B ∧ ∃ c' d', c' < d' ∧ (c' = c ∧ d' = d ∨ c' = d ∧ d' = c) ∧ Ay Z h u .int [.int c', .int d', .int e, .int f]) := by
  refine k_intro (Ls := #[.val (.ref u), .val (.int (0 : Int32)), .val (.int (2 : Int32)), .unset, .unset, .unset]) (by decide +kernel) rfl fun x T0 X0 => ?_
  have lt_u := A.lt
  refine g_iloadN X0 d10_0 rfl ?_
  refine g_istore X0 #[.val (.ref u), .val (.int (0 : Int32)), .val (.int (2 : Int32)), .unset, .val (.int (0 : Int32)), .unset] d10_1 rfl ?_
  refine g_iinc X0 #[.val (.ref u), .val (.int (0 : Int32)), .val (.int (2 : Int32)), .unset, .val (.int (1 : Int32)), .unset] d10_3 rfl (by decide) rfl ?_
  refine g_iload X0 d10_6 rfl ?_
  refine g_iloadN X0 d10_8 rfl ?_
  refine g_icmpF X0 d10_9 (by decide) ?_
  refine g_aloadN X0 d10_12 rfl rfl ?_
  refine g_iload X0 d10_13 rfl ?_
  refine g_dup X0 d10_15 rfl ?_
  refine g_istoreN X0 #[.val (.ref u), .val (.int (0 : Int32)), .val (.int (2 : Int32)), .val (.int (1 : Int32)), .val (.int (1 : Int32)), .unset] d10_16 rfl ?_
  refine g_iaload X0 d10_17 A 1 (by decide) (by rfl) ?_
  refine g_istore X0 #[.val (.ref u), .val (.int (0 : Int32)), .val (.int (2 : Int32)), .val (.int (1 : Int32)), .val (.int (1 : Int32)), .val (.int d)] d10_18 rfl ?_
  refine g_iload X0 d10_20 rfl ?_
  refine g_aloadN X0 d10_22 rfl rfl ?_
  refine g_iloadN X0 d10_23 rfl ?_
  refine g_iconst X0 (1 : Int32) d10_24 (by decide) ?_
  refine g_isub X0 (0 : Int32) d10_25 (by decide) ?_
  refine g_iaload X0 d10_26 A 0 (by decide) (by rfl) ?_
  by_cases hlt : d < c
  ·
    refine g_icmpF X0 d10_27 (XT.ii_ge_f hlt) ?_
    refine g_iinc X0 #[.val (.ref u), .val (.int (0 : Int32)), .val (.int (2 : Int32)), .val (.int (0 : Int32)), .val (.int (1 : Int32)), .val (.int d)] d10_30 rfl (by decide) rfl ?_
    refine g_iloadN X0 d10_33 rfl ?_
    refine g_iloadN X0 d10_34 rfl ?_
    refine g_icmpF X0 d10_35 (by decide) ?_
    refine g_iload X0 d10_38 rfl ?_
    refine g_aloadN X0 d10_40 rfl rfl ?_
    refine g_iloadN X0 d10_41 rfl ?_
    refine g_iaload X0 d10_42 A 0 (by decide) (by rfl) ?_
    refine g_icmpF X0 d10_43 (XT.ii_ge_f hlt) ?_
    refine g_aloadN X0 d10_46 rfl rfl ?_
    refine g_iloadN X0 d10_47 rfl ?_
    refine g_iconst X0 (1 : Int32) d10_48 (by decide) ?_
    refine g_iadd X0 (1 : Int32) d10_49 (by decide) ?_
    refine g_aloadN X0 d10_50 rfl rfl ?_
    refine g_iloadN X0 d10_51 rfl ?_
    refine g_iaload X0 d10_52 A 0 (by decide) (by rfl) ?_
    refine g_iastore X0 d10_53 A 1 (by decide) c rfl (Nat.le_of_ble_eq_true rfl) nb_u zl_u (Or.inl (List.mem_of_getElem? (i := 0) rfl)) fun T1 h1 X1 K1 A1 => ?_
    have z1 := K1.1
    have A1a : Ay Z h1 u .int [(.int c), (.int c), (.int e), (.int f)] := A1
    refine g_goto X1 d10_54 ?_
    refine g_iinc X1 #[.val (.ref u), .val (.int (0 : Int32)), .val (.int (2 : Int32)), .val (.int (-1 : Int32)), .val (.int (1 : Int32)), .val (.int d)] d10_30 rfl (by decide) rfl ?_
    refine g_iloadN X1 d10_33 rfl ?_
    refine g_iloadN X1 d10_34 rfl ?_
    refine g_icmpT X1 d10_35 (by decide) ?_
    refine g_aloadN X1 d10_57 rfl rfl ?_
    refine g_iloadN X1 d10_58 rfl ?_
    refine g_iconst X1 (1 : Int32) d10_59 (by decide) ?_
    refine g_iadd X1 (0 : Int32) d10_60 (by decide) ?_
    refine g_iload X1 d10_61 rfl ?_
    refine g_iastore X1 d10_63 A1a 0 (by decide) d rfl (Nat.le_of_ble_eq_true rfl) nb_u zl_u (Or.inl (List.mem_of_getElem? (i := 0) rfl)) fun T2 h2 X2 K2 A2 => ?_
    have z2 := K2.1
    have A2a : Ay Z h2 u .int [(.int d), (.int c), (.int e), (.int f)] := A2
    refine g_goto X2 d10_64 ?_
    refine g_iinc X2 #[.val (.ref u), .val (.int (0 : Int32)), .val (.int (2 : Int32)), .val (.int (-1 : Int32)), .val (.int (2 : Int32)), .val (.int d)] d10_3 rfl (by decide) rfl ?_
    refine g_iload X2 d10_6 rfl ?_
    refine g_iloadN X2 d10_8 rfl ?_
    refine g_icmpT X2 d10_9 (by decide) ?_
    exact g_return X2 d10_67 (by decide) (by decide) ⟨rfl, rfl, d, c, hlt, Or.inr ⟨rfl, rfl⟩, A2a⟩
  ·
    refine g_icmpT X0 d10_27 (XT.ii_ge_t hlt) ?_
    refine g_goto X0 d10_64 ?_
    refine g_iinc X0 #[.val (.ref u), .val (.int (0 : Int32)), .val (.int (2 : Int32)), .val (.int (1 : Int32)), .val (.int (2 : Int32)), .val (.int d)] d10_3 rfl (by decide) rfl ?_
    refine g_iload X0 d10_6 rfl ?_
    refine g_iloadN X0 d10_8 rfl ?_
    refine g_icmpT X0 d10_9 (by decide) ?_
    exact g_return X0 d10_67 (by decide) (by decide) ⟨rfl, rfl, c, d, k_ltne hlt hne, Or.inl ⟨rfl, rfl⟩, A⟩
set_option maxRecDepth 65536 in
set_option maxHeartbeats 40000000 in
theorem c_sortBig2 {nw : Bool} {l : Launch} {Z : State} {EL : List (String × Nat)} {a0 : Array Value} (hw : HW Z a0) (hs : Sts Z) {h0 : Heap} {B0 : BP} (u : Addr) (c d e f : Int32) (A : Ay Z h0 u .int [.int c, .int d, .int e, .int f]) (nb_u : ¬ B0 u) (zl_u : Z.heap.size ≤ u) (hne : c ≠ d) :
    Con nw l Z EL (⟨"java/util/DualPivotQuicksort", "sort", "(Ljava/util/DualPivotQuicksort$Sorter;[IIII)V"⟩ : MethodName) jdk_2529_method_4_code 21 none [] ({ frames := 1, cells := 0, slots := 0, locals := 17 } : Room) #[.null, (.ref u), (.int (0 : Int32)), (.int (0 : Int32)), (.int (2 : Int32))] h0 B0 [u] (fun v h B => v = none ∧ B0 = B ∧ ∃ c' d', c' < d' ∧ (c' = c ∧ d' = d ∨ c' = d ∧ d' = c) ∧ Ay Z h u .int [.int c', .int d', .int e, .int f]) := by
  refine k_intro (Ls := #[.val .null, .val (.ref u), .val (.int (0 : Int32)), .val (.int (0 : Int32)), .val (.int (2 : Int32)), .unset, .unset, .unset, .unset, .unset, .unset, .unset, .unset, .unset, .unset, .unset, .unset, .unset, .unset, .unset, .unset]) (by decide +kernel) rfl fun x T0 X0 => ?_
  refine g_iload X0 d11_0 rfl ?_
  refine g_iconst X0 (1 : Int32) d11_2 (by decide) ?_
  refine g_isub X0 (1 : Int32) d11_3 (by decide) ?_
  refine g_istore X0 #[.val .null, .val (.ref u), .val (.int (0 : Int32)), .val (.int (0 : Int32)), .val (.int (2 : Int32)), .val (.int (1 : Int32)), .unset, .unset, .unset, .unset, .unset, .unset, .unset, .unset, .unset, .unset, .unset, .unset, .unset, .unset, .unset] d11_4 rfl ?_
  refine g_iload X0 d11_6 rfl ?_
  refine g_iloadN X0 d11_8 rfl ?_
  refine g_isub X0 (2 : Int32) d11_9 (by decide) ?_
  refine g_istore X0 #[.val .null, .val (.ref u), .val (.int (0 : Int32)), .val (.int (0 : Int32)), .val (.int (2 : Int32)), .val (.int (1 : Int32)), .val (.int (2 : Int32)), .unset, .unset, .unset, .unset, .unset, .unset, .unset, .unset, .unset, .unset, .unset, .unset, .unset, .unset] d11_10 rfl ?_
  refine g_iload X0 d11_12 rfl ?_
  refine g_bipush X0 (65 : Int32) d11_14 (by decide) ?_
  refine g_iloadN X0 d11_16 rfl ?_
  refine g_iadd X0 (65 : Int32) d11_17 (by decide) ?_
  refine g_icmpF X0 d11_18 (by decide) ?_
  refine g_iloadN X0 d11_21 rfl ?_
  refine g_iconst X0 (1 : Int32) d11_22 (by decide) ?_
  refine g_iand X0 (0 : Int32) d11_23 (by decide) ?_
  refine g_ifT X0 d11_24 (by decide) ?_
  refine g_iload X0 d11_46 rfl ?_
  refine g_bipush X0 (44 : Int32) d11_48 (by decide) ?_
  refine g_icmpF X0 d11_50 (by decide) ?_
  refine g_aloadN X0 d11_53 rfl rfl ?_
  refine g_iloadN X0 d11_54 rfl ?_
  refine g_iload X0 d11_55 rfl ?_
  refine g_callS X0 d11_57 (w67 hw) (w68 hw) (w62 hw) (w69 hw) (by decide) pd5 [(.ref u), (.int (0 : Int32)), (.int (2 : Int32))] [] 0 (c_insertion2 hw hs u c d e f A nb_u zl_u hne) rfl rfl rfl (Nat.le_of_eq rfl) (by decide) (by decide) 0 0 rfl rfl (by decide) (by decide) (k_ws1 ⟨nb_u, zl_u, (Or.inl (List.mem_of_getElem? (i := 0) rfl))⟩) fun v1 T1 h1 B1 X1 K1 M1 q1 => ?_
  obtain ⟨rfl, rfl, R⟩ := q1
  have z1 := K1.1
  show Go x (T1.setTop (mkF x.m 60 #[.val .null, .val (.ref u), .val (.int (0 : Int32)), .val (.int (0 : Int32)), .val (.int (2 : Int32)), .val (.int (1 : Int32)), .val (.int (2 : Int32)), .unset, .unset, .unset, .unset, .unset, .unset, .unset, .unset, .unset, .unset, .unset, .unset, .unset, .unset] []))
  exact g_return X1 d11_60 (by decide) (by decide) ⟨rfl, rfl, R⟩
set_option maxRecDepth 65536 in
set_option maxHeartbeats 40000000 in
theorem c_sortDP2 {nw : Bool} {l : Launch} {Z : State} {EL : List (String × Nat)} {a0 : Array Value} (hw : HW Z a0) (hs : Sts Z) {h0 : Heap} {B0 : BP} (u : Addr) (c d e f : Int32) (A : Ay Z h0 u .int [.int c, .int d, .int e, .int f]) (nb_u : ¬ B0 u) (zl_u : Z.heap.size ≤ u) (hne : c ≠ d) :
    Con nw l Z EL (⟨"java/util/DualPivotQuicksort", "sort", "([IIII)V"⟩ : MethodName) jdk_2529_method_3_code 7 none [] ({ frames := 2, cells := 0, slots := 0, locals := 49 } : Room) #[(.ref u), (.int (0 : Int32)), (.int (0 : Int32)), (.int (2 : Int32))] h0 B0 [u] (fun v h B => v = none ∧ B0 = B ∧ ∃ c' d', c' < d' ∧ (c' = c ∧ d' = d ∨ c' = d ∧ d' = c) ∧ Ay Z h u .int [.int c', .int d', .int e, .int f]) := by
  refine k_intro (Ls := #[.val (.ref u), .val (.int (0 : Int32)), .val (.int (0 : Int32)), .val (.int (2 : Int32)), .unset, .unset, .unset]) (by decide +kernel) rfl fun x T0 X0 => ?_
  refine g_iloadN X0 d12_0 rfl ?_
  refine g_iloadN X0 d12_1 rfl ?_
  refine g_isub X0 (2 : Int32) d12_2 (by decide) ?_
  refine g_istore X0 #[.val (.ref u), .val (.int (0 : Int32)), .val (.int (0 : Int32)), .val (.int (2 : Int32)), .val (.int (2 : Int32)), .unset, .unset] d12_3 rfl ?_
  refine g_iloadN X0 d12_5 rfl ?_
  refine g_iconst X0 (1 : Int32) d12_6 (by decide) ?_
  refine g_icmpT X0 d12_7 (by decide) ?_
  refine g_aconst_null X0 d12_68 ?_
  refine g_aloadN X0 d12_69 rfl rfl ?_
  refine g_iconst X0 (0 : Int32) d12_70 (by decide) ?_
  refine g_iloadN X0 d12_71 rfl ?_
  refine g_iloadN X0 d12_72 rfl ?_
  refine g_callS X0 d12_73 (w64 hw) (w65 hw) (w62 hw) (w66 hw) (by decide) pd6 [.null, (.ref u), (.int (0 : Int32)), (.int (0 : Int32)), (.int (2 : Int32))] [] 0 (c_sortBig2 hw hs u c d e f A nb_u zl_u hne) rfl rfl rfl (Nat.le_of_eq rfl) (by decide) (by decide) 0 0 rfl rfl (by decide) (by decide) (k_ws1 ⟨nb_u, zl_u, (Or.inl (List.mem_of_getElem? (i := 0) rfl))⟩) fun v1 T1 h1 B1 X1 K1 M1 q1 => ?_
  obtain ⟨rfl, rfl, R⟩ := q1
  have z1 := K1.1
  show Go x (T1.setTop (mkF x.m 76 #[.val (.ref u), .val (.int (0 : Int32)), .val (.int (0 : Int32)), .val (.int (2 : Int32)), .val (.int (2 : Int32)), .unset, .unset] []))
  exact g_return X1 d12_76 (by decide) (by decide) ⟨rfl, rfl, R⟩
set_option maxRecDepth 65536 in
set_option maxHeartbeats 40000000 in
theorem c_sortAr2 {nw : Bool} {l : Launch} {Z : State} {EL : List (String × Nat)} {a0 : Array Value} (hw : HW Z a0) (hs : Sts Z) {h0 : Heap} {B0 : BP} (u : Addr) (c d e f : Int32) (A : Ay Z h0 u .int [.int c, .int d, .int e, .int f]) (nb_u : ¬ B0 u) (zl_u : Z.heap.size ≤ u) (hne : c ≠ d) :
    Con nw l Z EL (⟨"java/util/Arrays", "sort", "([III)V"⟩ : MethodName) jdk_65_method_3_code 3 none [] ({ frames := 3, cells := 0, slots := 0, locals := 67 } : Room) #[(.ref u), (.int (0 : Int32)), (.int (2 : Int32))] h0 B0 [u] (fun v h B => v = none ∧ B0 = B ∧ ∃ c' d', c' < d' ∧ (c' = c ∧ d' = d ∨ c' = d ∧ d' = c) ∧ Ay Z h u .int [.int c', .int d', .int e, .int f]) := by
  refine k_intro (Ls := #[.val (.ref u), .val (.int (0 : Int32)), .val (.int (2 : Int32))]) (by decide +kernel) rfl fun x T0 X0 => ?_
  refine g_aloadN X0 d13_0 rfl rfl ?_
  refine g_arraylength X0 d13_1 A (4 : Int32) rfl ?_
  refine g_iloadN X0 d13_2 rfl ?_
  refine g_iloadN X0 d13_3 rfl ?_
  refine g_callSp0 X0 d13_4 (w57 hw) (w58 hw) (w55 hw) (w59 hw) (by decide) pd7 [(.int (4 : Int32)), (.int (0 : Int32)), (.int (2 : Int32))] [] 0 (c_rangeCheck hw hs 2 (Or.inr rfl)) rfl rfl rfl (Nat.le_of_eq rfl) (by decide) (by decide) 0 0 rfl rfl (by decide) (by decide) fun T1 X1 => ?_
  refine g_aloadN X1 d13_7 rfl rfl ?_
  refine g_iconst X1 (0 : Int32) d13_8 (by decide) ?_
  refine g_iloadN X1 d13_9 rfl ?_
  refine g_iloadN X1 d13_10 rfl ?_
  refine g_callS X1 d13_11 (w60 hw) (w61 hw) (w62 hw) (w63 hw) (by decide) pd8 [(.ref u), (.int (0 : Int32)), (.int (0 : Int32)), (.int (2 : Int32))] [] 0 (c_sortDP2 hw hs u c d e f A nb_u zl_u hne) rfl rfl rfl (Nat.le_of_eq rfl) (by decide) (by decide) 0 0 rfl rfl (by decide) (by decide) (k_ws1 ⟨nb_u, zl_u, (Or.inl (List.mem_of_getElem? (i := 0) rfl))⟩) fun v2 T2 h2 B2 X2 K2 M2 q2 => ?_
  obtain ⟨rfl, rfl, R⟩ := q2
  have z2 := K2.1
  show Go x (T2.setTop (mkF x.m 14 #[.val (.ref u), .val (.int (0 : Int32)), .val (.int (2 : Int32))] []))
  exact g_return X2 d13_14 (by decide) (by decide) ⟨rfl, rfl, R⟩
set_option maxRecDepth 65536 in
set_option maxHeartbeats 40000000 in
theorem c_intsSort2 {nw : Bool} {l : Launch} {Z : State} {EL : List (String × Nat)} {a0 : Array Value} (hw : HW Z a0) (hs : Sts Z) {h0 : Heap} {B0 : BP} (i u : Addr) (c d e f : Int32) (F1 : Fld Z h0 i "com/example/verichor/verichor/composition/Ints" "values" "[I" (.ref u)) (F2 : Fld Z h0 i "com/example/verichor/verichor/composition/Ints" "size" "I" (.int 2)) (A : Ay Z h0 u .int [.int c, .int d, .int e, .int f]) (nb_u : ¬ B0 u) (zl_u : Z.heap.size ≤ u) (hne : c ≠ d) :
    Con nw l Z EL (⟨"com/example/verichor/verichor/composition/Ints", "sort", "()V"⟩ : MethodName) prog_72_method_7_code 1 none [] ({ frames := 4, cells := 0, slots := 0, locals := 81 } : Room) #[(.ref i)] h0 B0 [u] (fun v h B => v = none ∧ B0 = B ∧ ∃ c' d', c' < d' ∧ (c' = c ∧ d' = d ∨ c' = d ∧ d' = c) ∧ Ay Z h u .int [.int c', .int d', .int e, .int f]) := by
  refine k_intro (Ls := #[.val (.ref i)]) (by decide +kernel) rfl fun x T0 X0 => ?_
  refine g_aloadN X0 d14_0 rfl rfl ?_
  refine g_getfield X0 d14_1 (w21 hw) Via.refl F1 fun T1 X1 => ?_
  refine g_iconst X1 (0 : Int32) d14_4 (by decide) ?_
  refine g_aloadN X1 d14_5 rfl rfl ?_
  refine g_getfield X1 d14_6 (w40 hw) Via.refl F2 fun T2 X2 => ?_
  refine g_callS X2 d14_9 (w53 hw) (w54 hw) (w55 hw) (w56 hw) (by decide) pd5 [(.ref u), (.int (0 : Int32)), (.int (2 : Int32))] [] 0 (c_sortAr2 hw hs u c d e f A nb_u zl_u hne) rfl rfl rfl (Nat.le_of_eq rfl) (by decide) (by decide) 0 0 rfl rfl (by decide) (by decide) (k_ws1 ⟨nb_u, zl_u, (Or.inl (List.mem_of_getElem? (i := 0) rfl))⟩) fun v3 T3 h3 B3 X3 K3 M3 q3 => ?_
  obtain ⟨rfl, rfl, R⟩ := q3
  have z3 := K3.1
  show Go x (T3.setTop (mkF x.m 12 #[.val (.ref i)] []))
  exact g_return X3 d14_12 (by decide) (by decide) ⟨rfl, rfl, R⟩
set_option maxRecDepth 65536 in
set_option maxHeartbeats 40000000 in
theorem c_toArray1 {nw : Bool} {l : Launch} {Z : State} {EL : List (String × Nat)} {a0 : Array Value} (hw : HW Z a0) (hs : Sts Z) {h0 : Heap} {B0 : BP} (i u : Addr) (c d e f : Int32) (F1 : Fld Z h0 i "com/example/verichor/verichor/composition/Ints" "values" "[I" (.ref u)) (F2 : Fld Z h0 i "com/example/verichor/verichor/composition/Ints" "size" "I" (.int 1)) (A : Ay Z h0 u .int [.int c, .int d, .int e, .int f]) :
    Con nw l Z EL (⟨"com/example/verichor/verichor/composition/Ints", "toArray", "()[I"⟩ : MethodName) prog_72_method_8_code 1 (some (.array .int)) [] ({ frames := 2, cells := 1, slots := 2, locals := 32 } : Room) #[(.ref i)] h0 B0 [] (fun v h B => ∃ r, v = some (.ref r) ∧ B0 = B ∧ h0.size ≤ r ∧ ¬ B r ∧ Ay Z h r .int [.int c] ∧ Exa Z h r "[I") := by
  refine k_intro (Ls := #[.val (.ref i)]) (by decide +kernel) rfl fun x T0 X0 => ?_
  refine g_aloadN X0 d15_0 rfl rfl ?_
  refine g_getfield X0 d15_1 (w21 hw) Via.refl F1 fun T1 X1 => ?_
  refine g_aloadN X1 d15_4 rfl rfl ?_
  refine g_getfield X1 d15_5 (w40 hw) Via.refl F2 fun T2 X2 => ?_
  refine g_callS X2 d15_8 (w75 hw) (w76 hw) (w55 hw) (w77 hw) (by decide) pd9 [(.ref u), (.int (1 : Int32))] [] 0 (c_copyOfI hw hs u 1 _ A (by simp) (by decide)) rfl rfl rfl (Nat.le_of_eq rfl) (by decide) (by decide) 1 2 rfl rfl (by decide) (by decide) (fun _ q => nomatch q) fun v3 T3 h3 B3 X3 K3 M3 q3 => ?_
  obtain ⟨r, rfl, rfl, fr, nbr, Ar, Er⟩ := q3
  have z3 := K3.1
  show Go x (T3.setTop (mkF x.m 11 #[.val (.ref i)] [(.ref r)]))
  exact g_areturn X3 d15_11 rfl rfl rfl (by decide) (by decide) ⟨_, rfl, rfl, fr, nbr, Ar, Er⟩
set_option maxRecDepth 65536 in
set_option maxHeartbeats 40000000 in
theorem c_toArray2 {nw : Bool} {l : Launch} {Z : State} {EL : List (String × Nat)} {a0 : Array Value} (hw : HW Z a0) (hs : Sts Z) {h0 : Heap} {B0 : BP} (i u : Addr) (c d e f : Int32) (F1 : Fld Z h0 i "com/example/verichor/verichor/composition/Ints" "values" "[I" (.ref u)) (F2 : Fld Z h0 i "com/example/verichor/verichor/composition/Ints" "size" "I" (.int 2)) (A : Ay Z h0 u .int [.int c, .int d, .int e, .int f]) :
    Con nw l Z EL (⟨"com/example/verichor/verichor/composition/Ints", "toArray", "()[I"⟩ : MethodName) prog_72_method_8_code 1 (some (.array .int)) [] ({ frames := 2, cells := 1, slots := 2, locals := 32 } : Room) #[(.ref i)] h0 B0 [] (fun v h B => ∃ r, v = some (.ref r) ∧ B0 = B ∧ h0.size ≤ r ∧ ¬ B r ∧ Ay Z h r .int [.int c, .int d] ∧ Exa Z h r "[I") := by
  refine k_intro (Ls := #[.val (.ref i)]) (by decide +kernel) rfl fun x T0 X0 => ?_
  refine g_aloadN X0 d15_0 rfl rfl ?_
  refine g_getfield X0 d15_1 (w21 hw) Via.refl F1 fun T1 X1 => ?_
  refine g_aloadN X1 d15_4 rfl rfl ?_
  refine g_getfield X1 d15_5 (w40 hw) Via.refl F2 fun T2 X2 => ?_
  refine g_callS X2 d15_8 (w75 hw) (w76 hw) (w55 hw) (w77 hw) (by decide) pd9 [(.ref u), (.int (2 : Int32))] [] 0 (c_copyOfI hw hs u 2 _ A (by simp) (by decide)) rfl rfl rfl (Nat.le_of_eq rfl) (by decide) (by decide) 1 2 rfl rfl (by decide) (by decide) (fun _ q => nomatch q) fun v3 T3 h3 B3 X3 K3 M3 q3 => ?_
  obtain ⟨r, rfl, rfl, fr, nbr, Ar, Er⟩ := q3
  have z3 := K3.1
  show Go x (T3.setTop (mkF x.m 11 #[.val (.ref i)] [(.ref r)]))
  exact g_areturn X3 d15_11 rfl rfl rfl (by decide) (by decide) ⟨_, rfl, rfl, fr, nbr, Ar, Er⟩
set_option maxRecDepth 65536 in
set_option maxHeartbeats 40000000 in
theorem c_clear {nw : Bool} {l : Launch} {Z : State} {EL : List (String × Nat)} {a0 : Array Value} (hw : HW Z a0) (hs : Sts Z) {h0 : Heap} {B0 : BP} (i : Addr) (E_i : Exa Z h0 i "com/example/verichor/verichor/composition/Ints") {ui_size : Value} (Fi_size : Fld Z h0 i "com/example/verichor/verichor/composition/Ints" "size" "I" ui_size) (nb_i : ¬ B0 i) (zl_i : Z.heap.size ≤ i)  :
    Con nw l Z EL (⟨"com/example/verichor/verichor/composition/Ints", "clear", "()V"⟩ : MethodName) prog_72_method_6_code 1 none [] ({ frames := 0, cells := 0, slots := 0, locals := 0 } : Room) #[(.ref i)] h0 B0 [i] (fun v h B => v = none ∧ B0 = B ∧ Exa Z h i "com/example/verichor/verichor/composition/Ints" ∧ Fld Z h i "com/example/verichor/verichor/composition/Ints" "size" "I" (.int 0) ∧ ∀ w, Fld Z h0 i "com/example/verichor/verichor/composition/Ints" "values" "[I" w → Fld Z h i "com/example/verichor/verichor/composition/Ints" "values" "[I" w) := by
  refine k_intro (Ls := #[.val (.ref i)]) (by decide +kernel) rfl fun x T0 X0 => ?_
  have lt_i := k_ltE E_i
  refine g_aloadN X0 d16_0 rfl rfl ?_
  refine g_iconst X0 (0 : Int32) d16_1 (by decide) ?_
  refine g_putfield X0 d16_2 (w40 hw) Via.refl Fi_size E_i (Or.inl (w41 hw)) (w14 hw) (ty := .int) (v' := (.int (0 : Int32))) (by decide) rfl rfl nb_i zl_i (Or.inl (List.mem_of_getElem? (i := 0) rfl)) fun T1 h1 X1 W1 => ?_
  have z1 := W1.size; have Fw1 := Fi_size.same W1
  have E_2 := (E_i.wr W1)
  exact g_return X1 d16_5 (by decide) (by decide) ⟨rfl, rfl, E_2, Fw1, fun w F => F.other W1 (Or.inr (slot_ne (Or.inl (w22 hw)) (Or.inl (w41 hw)) (by decide) (t := (.array .int)) (t' := .int) (by decide) (by decide)))⟩
set_option maxRecDepth 65536 in
set_option maxHeartbeats 40000000 in
theorem c_hashJ {nw : Bool} {l : Launch} {Z : State} {EL : List (String × Nat)} {a0 : Array Value} (hw : HW Z a0) (hs : Sts Z) {h0 : Heap} {B0 : BP} (t : Addr) (g : Int64) (A : Ay Z h0 t .long [.long g]) :
    Con nw l Z EL (⟨"java/util/Arrays", "hashCode", "([J)I"⟩ : MethodName) jdk_65_method_149_code 8 (some .int) [] ({ frames := 0, cells := 0, slots := 0, locals := 0 } : Room) #[(.ref t)] h0 B0 [] (fun v h B => ∃ r, v = some (.int r) ∧ B0 = B ∧ h0 = h) := by
  refine k_intro (Ls := #[.val (.ref t), .unset, .unset, .unset, .unset, .unset, .unset, .unset]) (by decide +kernel) rfl fun x T0 X0 => ?_
  refine g_aloadN X0 d17_0 rfl rfl ?_
  refine g_ifnonnullT X0 d17_1 ?_
  refine g_iconst X0 (1 : Int32) d17_6 (by decide) ?_
  refine g_istoreN X0 #[.val (.ref t), .val (.int (1 : Int32)), .unset, .unset, .unset, .unset, .unset, .unset] d17_7 rfl ?_
  refine g_aloadN X0 d17_8 rfl rfl ?_
  refine g_astoreN X0 #[.val (.ref t), .val (.int (1 : Int32)), .val (.ref t), .unset, .unset, .unset, .unset, .unset] d17_9 rfl rfl ?_
  refine g_aloadN X0 d17_10 rfl rfl ?_
  refine g_arraylength X0 d17_11 A (1 : Int32) rfl ?_
  refine g_istoreN X0 #[.val (.ref t), .val (.int (1 : Int32)), .val (.ref t), .val (.int (1 : Int32)), .unset, .unset, .unset, .unset] d17_12 rfl ?_
  refine g_iconst X0 (0 : Int32) d17_13 (by decide) ?_
  refine g_istore X0 #[.val (.ref t), .val (.int (1 : Int32)), .val (.ref t), .val (.int (1 : Int32)), .val (.int (0 : Int32)), .unset, .unset, .unset] d17_14 rfl ?_
  refine g_iload X0 d17_16 rfl ?_
  refine g_iloadN X0 d17_18 rfl ?_
  refine g_icmpF X0 d17_19 (by decide) ?_
  refine g_aloadN X0 d17_22 rfl rfl ?_
  refine g_iload X0 d17_23 rfl ?_
  refine g_laload X0 d17_25 A 0 (by decide) (by rfl) ?_
  refine g_lstore X0 #[.val (.ref t), .val (.int (1 : Int32)), .val (.ref t), .val (.int (1 : Int32)), .val (.int (0 : Int32)), .val (.long g), .second, .unset] d17_26 rfl ?_
  refine g_lload X0 d17_28 rfl ?_
  refine g_lload X0 d17_30 rfl ?_
  refine g_bipush X0 (32 : Int32) d17_32 (by decide) ?_
  refine g_lushr X0 (XT.ushrL g (32 : Int32)) d17_34 rfl ?_
  refine g_lxor X0 (g ^^^ (XT.ushrL g (32 : Int32))) d17_35 rfl ?_
  refine g_l2i X0 ((g ^^^ (XT.ushrL g (32 : Int32))).toInt32) d17_36 rfl ?_
  refine g_istore X0 #[.val (.ref t), .val (.int (1 : Int32)), .val (.ref t), .val (.int (1 : Int32)), .val (.int (0 : Int32)), .val (.long g), .second, .val (.int ((g ^^^ (XT.ushrL g (32 : Int32))).toInt32))] d17_37 rfl ?_
  refine g_bipush X0 (31 : Int32) d17_39 (by decide) ?_
  refine g_iloadN X0 d17_41 rfl ?_
  refine g_imul X0 (31 : Int32) d17_42 (by decide) ?_
  refine g_iload X0 d17_43 rfl ?_
  refine g_iadd X0 ((31 : Int32) + ((g ^^^ (XT.ushrL g (32 : Int32))).toInt32)) d17_45 rfl ?_
  refine g_istoreN X0 #[.val (.ref t), .val (.int ((31 : Int32) + ((g ^^^ (XT.ushrL g (32 : Int32))).toInt32))), .val (.ref t), .val (.int (1 : Int32)), .val (.int (0 : Int32)), .val (.long g), .second, .val (.int ((g ^^^ (XT.ushrL g (32 : Int32))).toInt32))] d17_46 rfl ?_
  refine g_iinc X0 #[.val (.ref t), .val (.int ((31 : Int32) + ((g ^^^ (XT.ushrL g (32 : Int32))).toInt32))), .val (.ref t), .val (.int (1 : Int32)), .val (.int (1 : Int32)), .val (.long g), .second, .val (.int ((g ^^^ (XT.ushrL g (32 : Int32))).toInt32))] d17_47 rfl (by decide) rfl ?_
  refine g_goto X0 d17_50 ?_
  refine g_iload X0 d17_16 rfl ?_
  refine g_iloadN X0 d17_18 rfl ?_
  refine g_icmpT X0 d17_19 (by decide) ?_
  refine g_iloadN X0 d17_53 rfl ?_
  exact g_ireturnI X0 d17_54 (by decide) (by decide) ⟨_, rfl, rfl, rfl⟩
set_option maxRecDepth 65536 in
set_option maxHeartbeats 40000000 in
theorem c_hashAS {nw : Bool} {l : Launch} {Z : State} {EL : List (String × Nat)} {a0 : Array Value} (hw : HW Z a0) (hs : Sts Z) {h0 : Heap} {B0 : BP} (t : Addr) (c d : Int32) (A : Ay Z h0 t .int [.int c, .int d]) :
    Con nw l Z EL (⟨"jdk/internal/util/ArraysSupport", "hashCode", "(I[III)I"⟩ : MethodName) jdk_48_method_9_code 6 (some .int) [] ({ frames := 0, cells := 0, slots := 0, locals := 0 } : Room) #[(.int (1 : Int32)), (.ref t), (.int (0 : Int32)), (.int (2 : Int32))] h0 B0 [] (fun v h B => ∃ r, v = some (.int r) ∧ B0 = B ∧ h0 = h) := by
  refine k_intro (Ls := #[.val (.int (1 : Int32)), .val (.ref t), .val (.int (0 : Int32)), .val (.int (2 : Int32)), .unset, .unset]) (by decide +kernel) rfl fun x T0 X0 => ?_
  refine g_iloadN X0 d18_0 rfl ?_
  refine g_iloadN X0 d18_1 rfl ?_
  refine g_iadd X0 (2 : Int32) d18_2 (by decide) ?_
  refine g_istore X0 #[.val (.int (1 : Int32)), .val (.ref t), .val (.int (0 : Int32)), .val (.int (2 : Int32)), .val (.int (2 : Int32)), .unset] d18_3 rfl ?_
  refine g_iloadN X0 d18_5 rfl ?_
  refine g_istore X0 #[.val (.int (1 : Int32)), .val (.ref t), .val (.int (0 : Int32)), .val (.int (2 : Int32)), .val (.int (2 : Int32)), .val (.int (0 : Int32))] d18_6 rfl ?_
  refine g_iload X0 d18_8 rfl ?_
  refine g_iload X0 d18_10 rfl ?_
  refine g_icmpF X0 d18_12 (by decide) ?_
  refine g_bipush X0 (31 : Int32) d18_15 (by decide) ?_
  refine g_iloadN X0 d18_17 rfl ?_
  refine g_imul X0 (31 : Int32) d18_18 (by decide) ?_
  refine g_aloadN X0 d18_19 rfl rfl ?_
  refine g_iload X0 d18_20 rfl ?_
  refine g_iaload X0 d18_22 A 0 (by decide) (by rfl) ?_
  refine g_iadd X0 ((31 : Int32) + c) d18_23 rfl ?_
  refine g_istoreN X0 #[.val (.int ((31 : Int32) + c)), .val (.ref t), .val (.int (0 : Int32)), .val (.int (2 : Int32)), .val (.int (2 : Int32)), .val (.int (0 : Int32))] d18_24 rfl ?_
  refine g_iinc X0 #[.val (.int ((31 : Int32) + c)), .val (.ref t), .val (.int (0 : Int32)), .val (.int (2 : Int32)), .val (.int (2 : Int32)), .val (.int (1 : Int32))] d18_25 rfl (by decide) rfl ?_
  refine g_goto X0 d18_28 ?_
  refine g_iload X0 d18_8 rfl ?_
  refine g_iload X0 d18_10 rfl ?_
  refine g_icmpF X0 d18_12 (by decide) ?_
  refine g_bipush X0 (31 : Int32) d18_15 (by decide) ?_
  refine g_iloadN X0 d18_17 rfl ?_
  refine g_imul X0 ((31 : Int32) * ((31 : Int32) + c)) d18_18 rfl ?_
  refine g_aloadN X0 d18_19 rfl rfl ?_
  refine g_iload X0 d18_20 rfl ?_
  refine g_iaload X0 d18_22 A 1 (by decide) (by rfl) ?_
  refine g_iadd X0 (((31 : Int32) * ((31 : Int32) + c)) + d) d18_23 rfl ?_
  refine g_istoreN X0 #[.val (.int (((31 : Int32) * ((31 : Int32) + c)) + d)), .val (.ref t), .val (.int (0 : Int32)), .val (.int (2 : Int32)), .val (.int (2 : Int32)), .val (.int (1 : Int32))] d18_24 rfl ?_
  refine g_iinc X0 #[.val (.int (((31 : Int32) * ((31 : Int32) + c)) + d)), .val (.ref t), .val (.int (0 : Int32)), .val (.int (2 : Int32)), .val (.int (2 : Int32)), .val (.int (2 : Int32))] d18_25 rfl (by decide) rfl ?_
  refine g_goto X0 d18_28 ?_
  refine g_iload X0 d18_8 rfl ?_
  refine g_iload X0 d18_10 rfl ?_
  refine g_icmpT X0 d18_12 (by decide) ?_
  refine g_iloadN X0 d18_31 rfl ?_
  exact g_ireturnI X0 d18_32 (by decide) (by decide) ⟨_, rfl, rfl, rfl⟩
set_option maxRecDepth 65536 in
set_option maxHeartbeats 40000000 in
theorem c_vector {nw : Bool} {l : Launch} {Z : State} {EL : List (String × Nat)} {a0 : Array Value} (hw : HW Z a0) (hs : Sts Z) {h0 : Heap} {B0 : BP} (t : Addr) (c d : Int32) (A : Ay Z h0 t .int [.int c, .int d]) (E : Exa Z h0 t "[I") :
    Con nw l Z EL (⟨"jdk/internal/util/ArraysSupport", "vectorizedHashCode", "(Ljava/lang/Object;IIII)I"⟩ : MethodName) jdk_48_method_4_code 5 (some .int) [] ({ frames := 1, cells := 0, slots := 0, locals := 17 } : Room) #[(.ref t), (.int (0 : Int32)), (.int (2 : Int32)), (.int (1 : Int32)), (.int (10 : Int32))] h0 B0 [] (fun v h B => ∃ r, v = some (.int r) ∧ B0 = B ∧ h0 = h) := by
  refine k_intro (Ls := #[.val (.ref t), .val (.int (0 : Int32)), .val (.int (2 : Int32)), .val (.int (1 : Int32)), .val (.int (10 : Int32))]) (by decide +kernel) rfl fun x T0 X0 => ?_
  refine g_iload X0 d19_0 rfl ?_
  refine g_tsw X0 dsw1 (i := 10) (o := 114) (pc' := 116) (by decide) (by decide +kernel) (by decide) (by decide) ?_
  refine g_iloadN X0 d19_116 rfl ?_
  refine g_aloadN X0 d19_117 rfl rfl ?_
  refine g_castY X0 d19_118 (w124 hw) (Ins.self E) fun T1 X1 => ?_
  refine g_iloadN X1 d19_121 rfl ?_
  refine g_iloadN X1 d19_122 rfl ?_
  refine g_callS X1 d19_123 (w126 hw) (w127 hw) (w122 hw) (w128 hw) (by decide) pd10 [(.int (1 : Int32)), (.ref t), (.int (0 : Int32)), (.int (2 : Int32))] [] 0 (c_hashAS hw hs t c d A) rfl rfl rfl (Nat.le_of_eq rfl) (by decide) (by decide) 0 0 rfl rfl (by decide) (by decide) (fun _ q => nomatch q) fun v2 T2 h2 B2 X2 K2 M2 q2 => ?_
  obtain ⟨r, rfl, rfl, rfl⟩ := q2
  have z2 := K2.1
  show Go x (T2.setTop (mkF x.m 126 #[.val (.ref t), .val (.int (0 : Int32)), .val (.int (2 : Int32)), .val (.int (1 : Int32)), .val (.int (10 : Int32))] [(.int r)]))
  refine g_goto X2 d19_126 ?_
  exact g_ireturnI X2 d19_157 (by decide) (by decide) ⟨_, rfl, rfl, rfl⟩
set_option maxRecDepth 65536 in
set_option maxHeartbeats 40000000 in
theorem c_hashI {nw : Bool} {l : Launch} {Z : State} {EL : List (String × Nat)} {a0 : Array Value} (hw : HW Z a0) (hs : Sts Z) {h0 : Heap} {B0 : BP} (t : Addr) (c d : Int32) (A : Ay Z h0 t .int [.int c, .int d]) (E : Exa Z h0 t "[I") :
    Con nw l Z EL (⟨"java/util/Arrays", "hashCode", "([I)I"⟩ : MethodName) jdk_65_method_150_code 1 (some .int) [] ({ frames := 2, cells := 0, slots := 0, locals := 33 } : Room) #[(.ref t)] h0 B0 [] (fun v h B => ∃ r, v = some (.int r) ∧ B0 = B ∧ h0 = h) := by
  refine k_intro (Ls := #[.val (.ref t)]) (by decide +kernel) rfl fun x T0 X0 => ?_
  refine g_aloadN X0 d20_0 rfl rfl ?_
  refine g_ifnonnullT X0 d20_1 ?_
  refine g_aloadN X0 d20_6 rfl rfl ?_
  refine g_arraylength X0 d20_7 A (2 : Int32) rfl ?_
  refine g_lsw X0 dsw2 (i := 2) (pc' := 49) (by decide) (by decide +kernel) (by decide) (by decide) ?_
  refine g_aloadN X0 d20_49 rfl rfl ?_
  refine g_iconst X0 (0 : Int32) d20_50 (by decide) ?_
  refine g_aloadN X0 d20_51 rfl rfl ?_
  refine g_arraylength X0 d20_52 A (2 : Int32) rfl ?_
  refine g_iconst X0 (1 : Int32) d20_53 (by decide) ?_
  refine g_bipush X0 (10 : Int32) d20_54 (by decide) ?_
  refine g_callS X0 d20_56 (w120 hw) (w121 hw) (w122 hw) (w123 hw) (by decide) pd11 [(.ref t), (.int (0 : Int32)), (.int (2 : Int32)), (.int (1 : Int32)), (.int (10 : Int32))] [] 0 (c_vector hw hs t c d A E) rfl rfl rfl (Nat.le_of_eq rfl) (by decide) (by decide) 0 0 rfl rfl (by decide) (by decide) (fun _ q => nomatch q) fun v1 T1 h1 B1 X1 K1 M1 q1 => ?_
  obtain ⟨r, rfl, rfl, rfl⟩ := q1
  have z1 := K1.1
  show Go x (T1.setTop (mkF x.m 59 #[.val (.ref t)] [(.int r)]))
  exact g_ireturnI X1 d20_59 (by decide) (by decide) ⟨_, rfl, rfl, rfl⟩
set_option maxRecDepth 65536 in
set_option maxHeartbeats 40000000 in
theorem c_ssInit1 {nw : Bool} {l : Launch} {Z : State} {EL : List (String × Nat)} {a0 : Array Value} (hw : HW Z a0) (hs : Sts Z) {h0 : Heap} {B0 : BP} (s r : Addr) (c : Int32) (E_s : Exa Z h0 s "com/example/verichor/verichor/explore/StateSet") {us_lowest : Value} (Fs_lowest : Fld Z h0 s "com/example/verichor/verichor/explore/StateSet" "lowest" "I" us_lowest) {us_members : Value} (Fs_members : Fld Z h0 s "com/example/verichor/verichor/explore/StateSet" "members" "[I" us_members) {us_bits : Value} (Fs_bits : Fld Z h0 s "com/example/verichor/verichor/explore/StateSet" "bits" "[J" us_bits) {us_numbers : Value} (Fs_numbers : Fld Z h0 s "com/example/verichor/verichor/explore/StateSet" "numbers" "I" us_numbers) {us_hash : Value} (Fs_hash : Fld Z h0 s "com/example/verichor/verichor/explore/StateSet" "hash" "I" us_hash) (nb_s : ¬ B0 s) (zl_s : Z.heap.size ≤ s) (A : Ay Z h0 r .int [.int c])  :
    Con nw l Z EL (⟨"com/example/verichor/verichor/explore/StateSet", "<init>", "([I)V"⟩ : MethodName) prog_217_method_1_code 9 none [] ({ frames := 1, cells := 1, slots := 1, locals := 21 } : Room) #[(.ref s), (.ref r)] h0 B0 [s] (fun v h B => v = none ∧ B0 = B) := by
  refine k_intro (Ls := #[.val (.ref s), .val (.ref r), .unset, .unset, .unset, .unset, .unset, .unset, .unset]) (by decide +kernel) rfl fun x T0 X0 => ?_
  have lt_s := k_ltE E_s
  have lt_r := A.lt
  have nsr : s ≠ r := Ay.ne E_s (w92 hw) A
  refine g_aloadN X0 d21_0 rfl rfl ?_
  refine g_init X0 d21_1 rfl rfl (w97 hw) (w8 hw) (w9 hw) 0 rfl (by decide) (Nat.le_of_eq rfl) (by decide) fun T1 X1 => ?_
  refine g_aloadN X1 d21_4 rfl rfl ?_
  refine g_arraylength X1 d21_5 A (1 : Int32) rfl ?_
  refine g_istoreN X1 #[.val (.ref s), .val (.ref r), .val (.int (1 : Int32)), .unset, .unset, .unset, .unset, .unset, .unset] d21_6 rfl ?_
  refine g_iloadN X1 d21_7 rfl ?_
  refine g_ifT X1 d21_8 (by decide) ?_
  refine g_aloadN X1 d21_15 rfl rfl ?_
  refine g_iloadN X1 d21_16 rfl ?_
  refine g_iconst X1 (1 : Int32) d21_17 (by decide) ?_
  refine g_isub X1 (0 : Int32) d21_18 (by decide) ?_
  refine g_iaload X1 d21_19 A 0 (by decide) (by rfl) ?_
  refine g_aloadN X1 d21_20 rfl rfl ?_
  refine g_iconst X1 (0 : Int32) d21_21 (by decide) ?_
  refine g_iaload X1 d21_22 A 0 (by decide) (by rfl) ?_
  refine g_isub X1 (0 : Int32) d21_23 (by simp) ?_
  refine g_iconst X1 (1 : Int32) d21_24 (by decide) ?_
  refine g_iadd X1 (1 : Int32) d21_25 (by decide) ?_
  refine g_istoreN X1 #[.val (.ref s), .val (.ref r), .val (.int (1 : Int32)), .val (.int (1 : Int32)), .unset, .unset, .unset, .unset, .unset] d21_26 rfl ?_
  refine g_aloadN X1 d21_27 rfl rfl ?_
  refine g_iloadN X1 d21_28 rfl ?_
  refine g_ifT X1 d21_29 (by decide) ?_
  refine g_aloadN X1 d21_36 rfl rfl ?_
  refine g_iconst X1 (0 : Int32) d21_37 (by decide) ?_
  refine g_iaload X1 d21_38 A 0 (by decide) (by rfl) ?_
  refine g_putfield X1 d21_39 (w98 hw) Via.refl Fs_lowest E_s (Or.inr ⟨(w99 hw), rfl, rfl⟩) (w92 hw) (ty := .int) (v' := (.int c)) (by decide) rfl rfl nb_s zl_s (Or.inl (List.mem_of_getElem? (i := 0) rfl)) fun T2 h2 X2 W2 => ?_
  have z2 := W2.size; have Fw2 := Fs_lowest.same W2
  refine g_iloadN X2 d21_42 rfl ?_
  refine g_bipush X2 (32 : Int32) d21_43 (by decide) ?_
  refine g_idiv X2 (0 : Int32) d21_45 (by decide) (by decide) ?_
  refine g_iloadN X2 d21_46 rfl ?_
  refine g_icmpF X2 d21_47 (by decide) ?_
  refine g_aloadN X2 d21_50 rfl rfl ?_
  refine g_aconst_null X2 d21_51 ?_
  have F3 := (Fs_members.other W2 (Or.inr (slot_ne (Or.inr (w101 hw)) (Or.inr (w99 hw)) (by decide) (t := (.array .int)) (t' := .int) (by decide) (by decide))))
  have E_4 := (E_s.wr W2)
  refine g_putfield X2 d21_52 (w100 hw) Via.refl F3 E_4 (Or.inr ⟨(w101 hw), rfl, rfl⟩) (w92 hw) (ty := (.array .int)) (v' := .null) (by decide) rfl rfl nb_s zl_s (Or.inl (List.mem_of_getElem? (i := 0) rfl)) fun T5 h5 X5 W5 => ?_
  have z5 := W5.size; have Fw5 := F3.same W5
  refine g_aloadN X5 d21_55 rfl rfl ?_
  refine g_iloadN X5 d21_56 rfl ?_
  refine g_bipush X5 (64 : Int32) d21_57 (by decide) ?_
  refine g_iadd X5 (65 : Int32) d21_59 (by decide) ?_
  refine g_iconst X5 (1 : Int32) d21_60 (by decide) ?_
  refine g_isub X5 (64 : Int32) d21_61 (by decide) ?_
  refine g_bipush X5 (64 : Int32) d21_62 (by decide) ?_
  refine g_idiv X5 (1 : Int32) d21_64 (by decide) (by decide) ?_
  refine g_newarray X5 d21_65 rfl (w10 hw) 1 1 (by decide) (Nat.le_refl _) (by decide) 1 1 rfl rfl (by decide) (by decide) fun T6 h6 b6 X6 E6 eb6 nb6 A6 => ?_
  have z6 := E6.1; have lt6 : @LT.lt Nat _ b6 h6.size := A6.lt; have zl6 : @LE.le Nat _ Z.heap.size b6 := eb6 ▸ X5.szZ; have fr6 : @LE.le Nat _ h0.size b6 := eb6 ▸ X5.sz
  have A6a : Ay Z h6 b6 .long [(.long (0 : Int64))] := A6
  have F7 := (((Fs_bits.other W2 (Or.inr (slot_ne (Or.inr (w103 hw)) (Or.inr (w99 hw)) (by decide) (t := (.array .long)) (t' := .int) (by decide) (by decide)))).other W5 (Or.inr (slot_ne (Or.inr (w103 hw)) (Or.inr (w101 hw)) (by decide) (t := (.array .long)) (t' := (.array .int)) (by decide) (by decide)))).ext E6)
  have E_8 := ((E_4.wr W5).ext E6)
  refine g_putfield X6 d21_67 (w102 hw) Via.refl F7 E_8 (Or.inr ⟨(w103 hw), rfl, rfl⟩) (w92 hw) (ty := (.array .long)) (v' := (.ref b6)) (by decide) rfl rfl nb_s zl_s (Or.inl (List.mem_of_getElem? (i := 0) rfl)) fun T9 h9 X9 W9 => ?_
  have z9 := W9.size; have Fw9 := F7.same W9
  refine g_aloadN X9 d21_70 rfl rfl ?_
  refine g_astore X9 #[.val (.ref s), .val (.ref r), .val (.int (1 : Int32)), .val (.int (1 : Int32)), .val (.ref r), .unset, .unset, .unset, .unset] d21_71 rfl rfl ?_
  refine g_aload X9 d21_73 rfl rfl ?_
  have A10 := ((((A.keep (Keep.of_wr W2) (ninS (Ne.symm nsr) nin0)).keep (Keep.of_wr W5) (ninS (Ne.symm nsr) nin0)).ext E6).keep (Keep.of_wr W9) (ninS (Ne.symm nsr) nin0))
  refine g_arraylength X9 d21_75 A10 (1 : Int32) rfl ?_
  refine g_istore X9 #[.val (.ref s), .val (.ref r), .val (.int (1 : Int32)), .val (.int (1 : Int32)), .val (.ref r), .val (.int (1 : Int32)), .unset, .unset, .unset] d21_76 rfl ?_
  refine g_iconst X9 (0 : Int32) d21_78 (by decide) ?_
  refine g_istore X9 #[.val (.ref s), .val (.ref r), .val (.int (1 : Int32)), .val (.int (1 : Int32)), .val (.ref r), .val (.int (1 : Int32)), .val (.int (0 : Int32)), .unset, .unset] d21_79 rfl ?_
  refine g_iload X9 d21_81 rfl ?_
  refine g_iload X9 d21_83 rfl ?_
  refine g_icmpF X9 d21_85 (by decide) ?_
  refine g_aload X9 d21_88 rfl rfl ?_
  refine g_iload X9 d21_90 rfl ?_
  refine g_iaload X9 d21_92 A10 0 (by decide) (by rfl) ?_
  refine g_istore X9 #[.val (.ref s), .val (.ref r), .val (.int (1 : Int32)), .val (.int (1 : Int32)), .val (.ref r), .val (.int (1 : Int32)), .val (.int (0 : Int32)), .val (.int c), .unset] d21_93 rfl ?_
  refine g_iload X9 d21_95 rfl ?_
  refine g_aloadN X9 d21_97 rfl rfl ?_
  have F11 := (((Fw2.other W5 (Or.inr (slot_ne (Or.inr (w99 hw)) (Or.inr (w101 hw)) (by decide) (t := .int) (t' := (.array .int)) (by decide) (by decide)))).ext E6).other W9 (Or.inr (slot_ne (Or.inr (w99 hw)) (Or.inr (w103 hw)) (by decide) (t := .int) (t' := (.array .long)) (by decide) (by decide))))
  refine g_getfield X9 d21_98 (w98 hw) Via.refl F11 fun T12 X12 => ?_
  refine g_isub X12 (0 : Int32) d21_101 (by simp) ?_
  refine g_istore X12 #[.val (.ref s), .val (.ref r), .val (.int (1 : Int32)), .val (.int (1 : Int32)), .val (.ref r), .val (.int (1 : Int32)), .val (.int (0 : Int32)), .val (.int c), .val (.int (0 : Int32))] d21_102 rfl ?_
  refine g_aloadN X12 d21_104 rfl rfl ?_
  refine g_getfield X12 d21_105 (w102 hw) Via.refl Fw9 fun T13 X13 => ?_
  refine g_iload X13 d21_108 rfl ?_
  refine g_bipush X13 (64 : Int32) d21_110 (by decide) ?_
  refine g_idiv X13 (0 : Int32) d21_112 (by decide) (by decide) ?_
  refine g_dup2 X13 d21_113 rfl rfl ?_
  have A14 := (A6a.keep (Keep.of_wr W9) (ninS (k_neN (by omega)) nin0))
  refine g_laload X13 d21_114 A14 0 (by decide) (by rfl) ?_
  refine g_lconst X13 (1 : Int64) d21_115 (by decide) ?_
  refine g_iload X13 d21_116 rfl ?_
  refine g_bipush X13 (64 : Int32) d21_118 (by decide) ?_
  refine g_irem X13 (0 : Int32) d21_120 (by decide) (by decide) ?_
  refine g_lshl X13 ((1 : Int64) <<< ((0 : Int32).toInt64 &&& 63)) d21_121 rfl ?_
  refine g_lor X13 ((0 : Int64) ||| ((1 : Int64) <<< ((0 : Int32).toInt64 &&& 63))) d21_122 rfl ?_
  refine g_lastore X13 d21_123 A14 0 (by decide) ((0 : Int64) ||| ((1 : Int64) <<< ((0 : Int32).toInt64 &&& 63))) rfl (Nat.le_of_ble_eq_true rfl) nb6 zl6 (Or.inr fr6) fun T15 h15 X15 K15 A15 => ?_
  have z15 := K15.1
  have A15a : Ay Z h15 b6 .long [(.long ((0 : Int64) ||| ((1 : Int64) <<< ((0 : Int32).toInt64 &&& 63))))] := A15
  refine g_iinc X15 #[.val (.ref s), .val (.ref r), .val (.int (1 : Int32)), .val (.int (1 : Int32)), .val (.ref r), .val (.int (1 : Int32)), .val (.int (1 : Int32)), .val (.int c), .val (.int (0 : Int32))] d21_124 rfl (by decide) rfl ?_
  refine g_goto X15 d21_127 ?_
  refine g_iload X15 d21_81 rfl ?_
  refine g_iload X15 d21_83 rfl ?_
  refine g_icmpT X15 d21_85 (by decide) ?_
  refine g_aloadN X15 d21_130 rfl rfl ?_
  refine g_iloadN X15 d21_131 rfl ?_
  refine g_bipush X15 (32 : Int32) d21_132 (by decide) ?_
  refine g_idiv X15 (0 : Int32) d21_134 (by decide) (by decide) ?_
  have F16 := (((((Fs_numbers.other W2 (Or.inr (slot_ne (Or.inr (w105 hw)) (Or.inr (w99 hw)) (by decide) (t := .int) (t' := .int) (by decide) (by decide)))).other W5 (Or.inr (slot_ne (Or.inr (w105 hw)) (Or.inr (w101 hw)) (by decide) (t := .int) (t' := (.array .int)) (by decide) (by decide)))).ext E6).other W9 (Or.inr (slot_ne (Or.inr (w105 hw)) (Or.inr (w103 hw)) (by decide) (t := .int) (t' := (.array .long)) (by decide) (by decide)))).keep K15 (ninS (k_neN (by omega)) nin0))
  have E_17 := ((E_8.wr W9).keep K15)
  refine g_putfield X15 d21_135 (w104 hw) Via.refl F16 E_17 (Or.inr ⟨(w105 hw), rfl, rfl⟩) (w92 hw) (ty := .int) (v' := (.int (0 : Int32))) (by decide) rfl rfl nb_s zl_s (Or.inl (List.mem_of_getElem? (i := 0) rfl)) fun T18 h18 X18 W18 => ?_
  have z18 := W18.size; have Fw18 := F16.same W18
  refine g_aloadN X18 d21_138 rfl rfl ?_
  refine g_bipush X18 (31 : Int32) d21_139 (by decide) ?_
  refine g_aloadN X18 d21_141 rfl rfl ?_
  have F19 := ((F11.keep K15 (ninS (k_neN (by omega)) nin0)).other W18 (Or.inr (slot_ne (Or.inr (w99 hw)) (Or.inr (w105 hw)) (by decide) (t := .int) (t' := .int) (by decide) (by decide))))
  refine g_getfield X18 d21_142 (w98 hw) Via.refl F19 fun T20 X20 => ?_
  refine g_imul X20 ((31 : Int32) * c) d21_145 rfl ?_
  refine g_aloadN X20 d21_146 rfl rfl ?_
  have F21 := ((Fw9.keep K15 (ninS (k_neN (by omega)) nin0)).other W18 (Or.inr (slot_ne (Or.inr (w103 hw)) (Or.inr (w105 hw)) (by decide) (t := (.array .long)) (t' := .int) (by decide) (by decide))))
  refine g_getfield X20 d21_147 (w102 hw) Via.refl F21 fun T22 X22 => ?_
  have A23 := (A15a.keep (Keep.of_wr W18) (ninS (k_neN (by omega)) nin0))
  refine g_callS X22 d21_150 (w106 hw) (w107 hw) (w55 hw) (w108 hw) (by decide) pd12 [(.ref b6)] [(.int ((31 : Int32) * c)), (.ref s)] 2 (c_hashJ hw hs b6 _ A23) rfl rfl rfl (Nat.le_of_eq rfl) (by decide) (by decide) 1 1 rfl rfl (by decide) (by decide) (fun _ q => nomatch q) fun v24 T24 h24 B24 X24 K24 M24 q24 => ?_
  obtain ⟨rr, rfl, rfl, rfl⟩ := q24
  have z24 := K24.1
  show Go x (T24.setTop (mkF x.m 153 #[.val (.ref s), .val (.ref r), .val (.int (1 : Int32)), .val (.int (1 : Int32)), .val (.ref r), .val (.int (1 : Int32)), .val (.int (1 : Int32)), .val (.int c), .val (.int (0 : Int32))] [(.int rr), (.int ((31 : Int32) * c)), (.ref s)]))
  refine g_iadd X24 (((31 : Int32) * c) + rr) d21_153 rfl ?_
  have F25 := ((((((Fs_hash.other W2 (Or.inr (slot_ne (Or.inr (w110 hw)) (Or.inr (w99 hw)) (by decide) (t := .int) (t' := .int) (by decide) (by decide)))).other W5 (Or.inr (slot_ne (Or.inr (w110 hw)) (Or.inr (w101 hw)) (by decide) (t := .int) (t' := (.array .int)) (by decide) (by decide)))).ext E6).other W9 (Or.inr (slot_ne (Or.inr (w110 hw)) (Or.inr (w103 hw)) (by decide) (t := .int) (t' := (.array .long)) (by decide) (by decide)))).keep K15 (ninS (k_neN (by omega)) nin0)).other W18 (Or.inr (slot_ne (Or.inr (w110 hw)) (Or.inr (w105 hw)) (by decide) (t := .int) (t' := .int) (by decide) (by decide))))
  have E_26 := (E_17.wr W18)
  refine g_putfield X24 d21_154 (w109 hw) Via.refl F25 E_26 (Or.inr ⟨(w110 hw), rfl, rfl⟩) (w92 hw) (ty := .int) (v' := (.int (((31 : Int32) * c) + rr))) (by decide) rfl rfl nb_s zl_s (Or.inl (List.mem_of_getElem? (i := 0) rfl)) fun T27 h27 X27 W27 => ?_
  have z27 := W27.size; have Fw27 := F25.same W27
  refine g_goto X27 d21_157 ?_
  exact g_return X27 d21_186 (by decide) (by decide) ⟨rfl, rfl⟩
set_option maxRecDepth 65536 in
set_option maxHeartbeats 40000000 in
theorem c_ssInit2 {nw : Bool} {l : Launch} {Z : State} {EL : List (String × Nat)} {a0 : Array Value} (hw : HW Z a0) (hs : Sts Z) {h0 : Heap} {B0 : BP} (s r : Addr) (c e : Nat) (E_s : Exa Z h0 s "com/example/verichor/verichor/explore/StateSet") {us_lowest : Value} (Fs_lowest : Fld Z h0 s "com/example/verichor/verichor/explore/StateSet" "lowest" "I" us_lowest) {us_members : Value} (Fs_members : Fld Z h0 s "com/example/verichor/verichor/explore/StateSet" "members" "[I" us_members) {us_bits : Value} (Fs_bits : Fld Z h0 s "com/example/verichor/verichor/explore/StateSet" "bits" "[J" us_bits) {us_numbers : Value} (Fs_numbers : Fld Z h0 s "com/example/verichor/verichor/explore/StateSet" "numbers" "I" us_numbers) {us_hash : Value} (Fs_hash : Fld Z h0 s "com/example/verichor/verichor/explore/StateSet" "hash" "I" us_hash) (nb_s : ¬ B0 s) (zl_s : Z.heap.size ≤ s) (A : Ay Z h0 r .int [.int (Int32.ofNat c), .int (Int32.ofNat (c + e))]) (he : 0 < e) (hce : c + e < 4096) (E_r : Exa Z h0 r "[I")  :
    Con nw l Z EL (⟨"com/example/verichor/verichor/explore/StateSet", "<init>", "([I)V"⟩ : MethodName) prog_217_method_1_code 9 none [] ({ frames := 3, cells := 1, slots := 1, locals := 46 } : Room) #[(.ref s), (.ref r)] h0 B0 [s] (fun v h B => v = none ∧ B0 = B) := by
  refine k_intro (Ls := #[.val (.ref s), .val (.ref r), .unset, .unset, .unset, .unset, .unset, .unset, .unset]) (by decide +kernel) rfl fun x T0 X0 => ?_
  have lt_s := k_ltE E_s
  have lt_r := A.lt
  have nsr : s ≠ r := Ay.ne E_s (w92 hw) A
  refine g_aloadN X0 d21_0 rfl rfl ?_
  refine g_init X0 d21_1 rfl rfl (w97 hw) (w8 hw) (w9 hw) 0 rfl (by decide) (Nat.le_of_eq rfl) (by decide) fun T1 X1 => ?_
  refine g_aloadN X1 d21_4 rfl rfl ?_
  refine g_arraylength X1 d21_5 A (2 : Int32) rfl ?_
  refine g_istoreN X1 #[.val (.ref s), .val (.ref r), .val (.int (2 : Int32)), .unset, .unset, .unset, .unset, .unset, .unset] d21_6 rfl ?_
  refine g_iloadN X1 d21_7 rfl ?_
  refine g_ifT X1 d21_8 (by decide) ?_
  refine g_aloadN X1 d21_15 rfl rfl ?_
  refine g_iloadN X1 d21_16 rfl ?_
  refine g_iconst X1 (1 : Int32) d21_17 (by decide) ?_
  refine g_isub X1 (1 : Int32) d21_18 (by decide) ?_
  refine g_iaload X1 d21_19 A 1 (by decide) (by rfl) ?_
  refine g_aloadN X1 d21_20 rfl rfl ?_
  refine g_iconst X1 (0 : Int32) d21_21 (by decide) ?_
  refine g_iaload X1 d21_22 A 0 (by decide) (by rfl) ?_
  refine g_isub X1 (Int32.ofNat e) d21_23 ((k_sub (by omega)).trans (by rw [Nat.add_sub_cancel_left])) ?_
  refine g_iconst X1 (1 : Int32) d21_24 (by decide) ?_
  refine g_iadd X1 (Int32.ofNat (e + 1)) d21_25 (k_add _ 1) ?_
  refine g_istoreN X1 #[.val (.ref s), .val (.ref r), .val (.int (2 : Int32)), .val (.int (Int32.ofNat (e + 1))), .unset, .unset, .unset, .unset, .unset] d21_26 rfl ?_
  refine g_aloadN X1 d21_27 rfl rfl ?_
  refine g_iloadN X1 d21_28 rfl ?_
  refine g_ifT X1 d21_29 (by decide) ?_
  refine g_aloadN X1 d21_36 rfl rfl ?_
  refine g_iconst X1 (0 : Int32) d21_37 (by decide) ?_
  refine g_iaload X1 d21_38 A 0 (by decide) (by rfl) ?_
  refine g_putfield X1 d21_39 (w98 hw) Via.refl Fs_lowest E_s (Or.inr ⟨(w99 hw), rfl, rfl⟩) (w92 hw) (ty := .int) (v' := (.int (Int32.ofNat c))) (by decide) rfl rfl nb_s zl_s (Or.inl (List.mem_of_getElem? (i := 0) rfl)) fun T2 h2 X2 W2 => ?_
  have z2 := W2.size; have Fw2 := Fs_lowest.same W2
  refine g_iloadN X2 d21_42 rfl ?_
  refine g_bipush X2 (32 : Int32) d21_43 (by decide) ?_
  refine g_idiv X2 (Int32.ofNat ((e + 1) / 32)) d21_45 (by decide) (k_divn (d := 32) (by omega) (by decide) (by decide)) ?_
  refine g_iloadN X2 d21_46 rfl ?_
  by_cases hlt : (Int32.ofNat ((e + 1) / 32)) < (2 : Int32)
  ·
    refine g_icmpF X2 d21_47 (XT.ii_ge_f hlt) ?_
    have hq : (e + 1) / 32 < 2 := (k_litlt (by omega) (by decide)).mp hlt
    refine g_aloadN X2 d21_50 rfl rfl ?_
    refine g_aconst_null X2 d21_51 ?_
    have F3 := (Fs_members.other W2 (Or.inr (slot_ne (Or.inr (w101 hw)) (Or.inr (w99 hw)) (by decide) (t := (.array .int)) (t' := .int) (by decide) (by decide))))
    have E_4 := (E_s.wr W2)
    refine g_putfield X2 d21_52 (w100 hw) Via.refl F3 E_4 (Or.inr ⟨(w101 hw), rfl, rfl⟩) (w92 hw) (ty := (.array .int)) (v' := .null) (by decide) rfl rfl nb_s zl_s (Or.inl (List.mem_of_getElem? (i := 0) rfl)) fun T5 h5 X5 W5 => ?_
    have z5 := W5.size; have Fw5 := F3.same W5
    refine g_aloadN X5 d21_55 rfl rfl ?_
    refine g_iloadN X5 d21_56 rfl ?_
    refine g_bipush X5 (64 : Int32) d21_57 (by decide) ?_
    refine g_iadd X5 (Int32.ofNat (e + 1 + 64)) d21_59 (k_add _ 64) ?_
    refine g_iconst X5 (1 : Int32) d21_60 (by decide) ?_
    refine g_isub X5 (Int32.ofNat (e + 1 + 64 - 1)) d21_61 (k_sub (j := 1) (by omega)) ?_
    refine g_bipush X5 (64 : Int32) d21_62 (by decide) ?_
    refine g_idiv X5 (1 : Int32) d21_64 (by decide) ((k_divn (d := 64) (by omega) (by decide) (by decide)).trans (by rw [show (e + 1 + 64 - 1) / 64 = 1 by omega]; rfl)) ?_
    refine g_newarray X5 d21_65 rfl (w10 hw) 1 1 (by decide) (Nat.le_refl _) (by decide) 1 1 rfl rfl (by decide) (by decide) fun T6 h6 b6 X6 E6 eb6 nb6 A6 => ?_
    have z6 := E6.1; have lt6 : @LT.lt Nat _ b6 h6.size := A6.lt; have zl6 : @LE.le Nat _ Z.heap.size b6 := eb6 ▸ X5.szZ; have fr6 : @LE.le Nat _ h0.size b6 := eb6 ▸ X5.sz
    have A6a : Ay Z h6 b6 .long [(.long (0 : Int64))] := A6
    have F7 := (((Fs_bits.other W2 (Or.inr (slot_ne (Or.inr (w103 hw)) (Or.inr (w99 hw)) (by decide) (t := (.array .long)) (t' := .int) (by decide) (by decide)))).other W5 (Or.inr (slot_ne (Or.inr (w103 hw)) (Or.inr (w101 hw)) (by decide) (t := (.array .long)) (t' := (.array .int)) (by decide) (by decide)))).ext E6)
    have E_8 := ((E_4.wr W5).ext E6)
    refine g_putfield X6 d21_67 (w102 hw) Via.refl F7 E_8 (Or.inr ⟨(w103 hw), rfl, rfl⟩) (w92 hw) (ty := (.array .long)) (v' := (.ref b6)) (by decide) rfl rfl nb_s zl_s (Or.inl (List.mem_of_getElem? (i := 0) rfl)) fun T9 h9 X9 W9 => ?_
    have z9 := W9.size; have Fw9 := F7.same W9
    refine g_aloadN X9 d21_70 rfl rfl ?_
    refine g_astore X9 #[.val (.ref s), .val (.ref r), .val (.int (2 : Int32)), .val (.int (Int32.ofNat (e + 1))), .val (.ref r), .unset, .unset, .unset, .unset] d21_71 rfl rfl ?_
    refine g_aload X9 d21_73 rfl rfl ?_
    have A10 := ((((A.keep (Keep.of_wr W2) (ninS (Ne.symm nsr) nin0)).keep (Keep.of_wr W5) (ninS (Ne.symm nsr) nin0)).ext E6).keep (Keep.of_wr W9) (ninS (Ne.symm nsr) nin0))
    refine g_arraylength X9 d21_75 A10 (2 : Int32) rfl ?_
    refine g_istore X9 #[.val (.ref s), .val (.ref r), .val (.int (2 : Int32)), .val (.int (Int32.ofNat (e + 1))), .val (.ref r), .val (.int (2 : Int32)), .unset, .unset, .unset] d21_76 rfl ?_
    refine g_iconst X9 (0 : Int32) d21_78 (by decide) ?_
    refine g_istore X9 #[.val (.ref s), .val (.ref r), .val (.int (2 : Int32)), .val (.int (Int32.ofNat (e + 1))), .val (.ref r), .val (.int (2 : Int32)), .val (.int (0 : Int32)), .unset, .unset] d21_79 rfl ?_
    refine g_iload X9 d21_81 rfl ?_
    refine g_iload X9 d21_83 rfl ?_
    refine g_icmpF X9 d21_85 (by decide) ?_
    refine g_aload X9 d21_88 rfl rfl ?_
    refine g_iload X9 d21_90 rfl ?_
    refine g_iaload X9 d21_92 A10 0 (by decide) (by rfl) ?_
    refine g_istore X9 #[.val (.ref s), .val (.ref r), .val (.int (2 : Int32)), .val (.int (Int32.ofNat (e + 1))), .val (.ref r), .val (.int (2 : Int32)), .val (.int (0 : Int32)), .val (.int (Int32.ofNat c)), .unset] d21_93 rfl ?_
    refine g_iload X9 d21_95 rfl ?_
    refine g_aloadN X9 d21_97 rfl rfl ?_
    have F11 := (((Fw2.other W5 (Or.inr (slot_ne (Or.inr (w99 hw)) (Or.inr (w101 hw)) (by decide) (t := .int) (t' := (.array .int)) (by decide) (by decide)))).ext E6).other W9 (Or.inr (slot_ne (Or.inr (w99 hw)) (Or.inr (w103 hw)) (by decide) (t := .int) (t' := (.array .long)) (by decide) (by decide))))
    refine g_getfield X9 d21_98 (w98 hw) Via.refl F11 fun T12 X12 => ?_
    refine g_isub X12 (0 : Int32) d21_101 (by simp) ?_
    refine g_istore X12 #[.val (.ref s), .val (.ref r), .val (.int (2 : Int32)), .val (.int (Int32.ofNat (e + 1))), .val (.ref r), .val (.int (2 : Int32)), .val (.int (0 : Int32)), .val (.int (Int32.ofNat c)), .val (.int (0 : Int32))] d21_102 rfl ?_
    refine g_aloadN X12 d21_104 rfl rfl ?_
    refine g_getfield X12 d21_105 (w102 hw) Via.refl Fw9 fun T13 X13 => ?_
    refine g_iload X13 d21_108 rfl ?_
    refine g_bipush X13 (64 : Int32) d21_110 (by decide) ?_
    refine g_idiv X13 (0 : Int32) d21_112 (by decide) (by decide) ?_
    refine g_dup2 X13 d21_113 rfl rfl ?_
    have A14 := (A6a.keep (Keep.of_wr W9) (ninS (k_neN (by omega)) nin0))
    refine g_laload X13 d21_114 A14 0 (by decide) (by rfl) ?_
    refine g_lconst X13 (1 : Int64) d21_115 (by decide) ?_
    refine g_iload X13 d21_116 rfl ?_
    refine g_bipush X13 (64 : Int32) d21_118 (by decide) ?_
    refine g_irem X13 (0 : Int32) d21_120 (by decide) (by decide) ?_
    refine g_lshl X13 ((1 : Int64) <<< ((0 : Int32).toInt64 &&& 63)) d21_121 rfl ?_
    refine g_lor X13 ((0 : Int64) ||| ((1 : Int64) <<< ((0 : Int32).toInt64 &&& 63))) d21_122 rfl ?_
    refine g_lastore X13 d21_123 A14 0 (by decide) ((0 : Int64) ||| ((1 : Int64) <<< ((0 : Int32).toInt64 &&& 63))) rfl (Nat.le_of_ble_eq_true rfl) nb6 zl6 (Or.inr fr6) fun T15 h15 X15 K15 A15 => ?_
    have z15 := K15.1
    have A15a : Ay Z h15 b6 .long [(.long ((0 : Int64) ||| ((1 : Int64) <<< ((0 : Int32).toInt64 &&& 63))))] := A15
    refine g_iinc X15 #[.val (.ref s), .val (.ref r), .val (.int (2 : Int32)), .val (.int (Int32.ofNat (e + 1))), .val (.ref r), .val (.int (2 : Int32)), .val (.int (1 : Int32)), .val (.int (Int32.ofNat c)), .val (.int (0 : Int32))] d21_124 rfl (by decide) rfl ?_
    refine g_goto X15 d21_127 ?_
    refine g_iload X15 d21_81 rfl ?_
    refine g_iload X15 d21_83 rfl ?_
    refine g_icmpF X15 d21_85 (by decide) ?_
    refine g_aload X15 d21_88 rfl rfl ?_
    refine g_iload X15 d21_90 rfl ?_
    have A16 := (A10.keep K15 (ninS (k_neN (by omega)) nin0))
    refine g_iaload X15 d21_92 A16 1 (by decide) (by rfl) ?_
    refine g_istore X15 #[.val (.ref s), .val (.ref r), .val (.int (2 : Int32)), .val (.int (Int32.ofNat (e + 1))), .val (.ref r), .val (.int (2 : Int32)), .val (.int (1 : Int32)), .val (.int (Int32.ofNat (c + e))), .val (.int (0 : Int32))] d21_93 rfl ?_
    refine g_iload X15 d21_95 rfl ?_
    refine g_aloadN X15 d21_97 rfl rfl ?_
    have F17 := (F11.keep K15 (ninS (k_neN (by omega)) nin0))
    refine g_getfield X15 d21_98 (w98 hw) Via.refl F17 fun T18 X18 => ?_
    refine g_isub X18 (Int32.ofNat e) d21_101 ((k_sub (by omega)).trans (by rw [Nat.add_sub_cancel_left])) ?_
    refine g_istore X18 #[.val (.ref s), .val (.ref r), .val (.int (2 : Int32)), .val (.int (Int32.ofNat (e + 1))), .val (.ref r), .val (.int (2 : Int32)), .val (.int (1 : Int32)), .val (.int (Int32.ofNat (c + e))), .val (.int (Int32.ofNat e))] d21_102 rfl ?_
    refine g_aloadN X18 d21_104 rfl rfl ?_
    have F19 := (Fw9.keep K15 (ninS (k_neN (by omega)) nin0))
    refine g_getfield X18 d21_105 (w102 hw) Via.refl F19 fun T20 X20 => ?_
    refine g_iload X20 d21_108 rfl ?_
    refine g_bipush X20 (64 : Int32) d21_110 (by decide) ?_
    refine g_idiv X20 (0 : Int32) d21_112 (by decide) ((k_divn (d := 64) (by omega) (by decide) (by decide)).trans (by rw [show e / 64 = 0 by omega]; rfl)) ?_
    refine g_dup2 X20 d21_113 rfl rfl ?_
    refine g_laload X20 d21_114 A15a 0 (by decide) (by rfl) ?_
    refine g_lconst X20 (1 : Int64) d21_115 (by decide) ?_
    refine g_iload X20 d21_116 rfl ?_
    refine g_bipush X20 (64 : Int32) d21_118 (by decide) ?_
    refine g_irem X20 ((Int32.ofNat e) % (64 : Int32)) d21_120 (by decide) rfl ?_
    refine g_lshl X20 ((1 : Int64) <<< (((Int32.ofNat e) % (64 : Int32)).toInt64 &&& 63)) d21_121 rfl ?_
    refine g_lor X20 (((0 : Int64) ||| ((1 : Int64) <<< ((0 : Int32).toInt64 &&& 63))) ||| ((1 : Int64) <<< (((Int32.ofNat e) % (64 : Int32)).toInt64 &&& 63))) d21_122 rfl ?_
    refine g_lastore X20 d21_123 A15a 0 (by decide) (((0 : Int64) ||| ((1 : Int64) <<< ((0 : Int32).toInt64 &&& 63))) ||| ((1 : Int64) <<< (((Int32.ofNat e) % (64 : Int32)).toInt64 &&& 63))) rfl (Nat.le_of_ble_eq_true rfl) nb6 zl6 (Or.inr fr6) fun T21 h21 X21 K21 A21 => ?_
    have z21 := K21.1
    have A21a : Ay Z h21 b6 .long [(.long (((0 : Int64) ||| ((1 : Int64) <<< ((0 : Int32).toInt64 &&& 63))) ||| ((1 : Int64) <<< (((Int32.ofNat e) % (64 : Int32)).toInt64 &&& 63))))] := A21
    refine g_iinc X21 #[.val (.ref s), .val (.ref r), .val (.int (2 : Int32)), .val (.int (Int32.ofNat (e + 1))), .val (.ref r), .val (.int (2 : Int32)), .val (.int (2 : Int32)), .val (.int (Int32.ofNat (c + e))), .val (.int (Int32.ofNat e))] d21_124 rfl (by decide) rfl ?_
    refine g_goto X21 d21_127 ?_
    refine g_iload X21 d21_81 rfl ?_
    refine g_iload X21 d21_83 rfl ?_
    refine g_icmpT X21 d21_85 (by decide) ?_
    refine g_aloadN X21 d21_130 rfl rfl ?_
    refine g_iloadN X21 d21_131 rfl ?_
    refine g_bipush X21 (32 : Int32) d21_132 (by decide) ?_
    refine g_idiv X21 ((Int32.ofNat (e + 1)) / (32 : Int32)) d21_134 (by decide) rfl ?_
    have F22 := ((((((Fs_numbers.other W2 (Or.inr (slot_ne (Or.inr (w105 hw)) (Or.inr (w99 hw)) (by decide) (t := .int) (t' := .int) (by decide) (by decide)))).other W5 (Or.inr (slot_ne (Or.inr (w105 hw)) (Or.inr (w101 hw)) (by decide) (t := .int) (t' := (.array .int)) (by decide) (by decide)))).ext E6).other W9 (Or.inr (slot_ne (Or.inr (w105 hw)) (Or.inr (w103 hw)) (by decide) (t := .int) (t' := (.array .long)) (by decide) (by decide)))).keep K15 (ninS (k_neN (by omega)) nin0)).keep K21 (ninS (k_neN (by omega)) nin0))
    have E_23 := (((E_8.wr W9).keep K15).keep K21)
    refine g_putfield X21 d21_135 (w104 hw) Via.refl F22 E_23 (Or.inr ⟨(w105 hw), rfl, rfl⟩) (w92 hw) (ty := .int) (v' := (.int ((Int32.ofNat (e + 1)) / (32 : Int32)))) (by decide) rfl rfl nb_s zl_s (Or.inl (List.mem_of_getElem? (i := 0) rfl)) fun T24 h24 X24 W24 => ?_
    have z24 := W24.size; have Fw24 := F22.same W24
    refine g_aloadN X24 d21_138 rfl rfl ?_
    refine g_bipush X24 (31 : Int32) d21_139 (by decide) ?_
    refine g_aloadN X24 d21_141 rfl rfl ?_
    have F25 := ((F17.keep K21 (ninS (k_neN (by omega)) nin0)).other W24 (Or.inr (slot_ne (Or.inr (w99 hw)) (Or.inr (w105 hw)) (by decide) (t := .int) (t' := .int) (by decide) (by decide))))
    refine g_getfield X24 d21_142 (w98 hw) Via.refl F25 fun T26 X26 => ?_
    refine g_imul X26 ((31 : Int32) * (Int32.ofNat c)) d21_145 rfl ?_
    refine g_aloadN X26 d21_146 rfl rfl ?_
    have F27 := ((F19.keep K21 (ninS (k_neN (by omega)) nin0)).other W24 (Or.inr (slot_ne (Or.inr (w103 hw)) (Or.inr (w105 hw)) (by decide) (t := (.array .long)) (t' := .int) (by decide) (by decide))))
    refine g_getfield X26 d21_147 (w102 hw) Via.refl F27 fun T28 X28 => ?_
    have A29 := (A21a.keep (Keep.of_wr W24) (ninS (k_neN (by omega)) nin0))
    refine g_callS X28 d21_150 (w106 hw) (w107 hw) (w55 hw) (w108 hw) (by decide) pd12 [(.ref b6)] [(.int ((31 : Int32) * (Int32.ofNat c))), (.ref s)] 2 (c_hashJ hw hs b6 _ A29) rfl rfl rfl (Nat.le_of_eq rfl) (by decide) (by decide) 1 1 rfl rfl (by decide) (by decide) (fun _ q => nomatch q) fun v30 T30 h30 B30 X30 K30 M30 q30 => ?_
    obtain ⟨rr, rfl, rfl, rfl⟩ := q30
    have z30 := K30.1
    show Go x (T30.setTop (mkF x.m 153 #[.val (.ref s), .val (.ref r), .val (.int (2 : Int32)), .val (.int (Int32.ofNat (e + 1))), .val (.ref r), .val (.int (2 : Int32)), .val (.int (2 : Int32)), .val (.int (Int32.ofNat (c + e))), .val (.int (Int32.ofNat e))] [(.int rr), (.int ((31 : Int32) * (Int32.ofNat c))), (.ref s)]))
    refine g_iadd X30 (((31 : Int32) * (Int32.ofNat c)) + rr) d21_153 rfl ?_
    have F31 := (((((((Fs_hash.other W2 (Or.inr (slot_ne (Or.inr (w110 hw)) (Or.inr (w99 hw)) (by decide) (t := .int) (t' := .int) (by decide) (by decide)))).other W5 (Or.inr (slot_ne (Or.inr (w110 hw)) (Or.inr (w101 hw)) (by decide) (t := .int) (t' := (.array .int)) (by decide) (by decide)))).ext E6).other W9 (Or.inr (slot_ne (Or.inr (w110 hw)) (Or.inr (w103 hw)) (by decide) (t := .int) (t' := (.array .long)) (by decide) (by decide)))).keep K15 (ninS (k_neN (by omega)) nin0)).keep K21 (ninS (k_neN (by omega)) nin0)).other W24 (Or.inr (slot_ne (Or.inr (w110 hw)) (Or.inr (w105 hw)) (by decide) (t := .int) (t' := .int) (by decide) (by decide))))
    have E_32 := (E_23.wr W24)
    refine g_putfield X30 d21_154 (w109 hw) Via.refl F31 E_32 (Or.inr ⟨(w110 hw), rfl, rfl⟩) (w92 hw) (ty := .int) (v' := (.int (((31 : Int32) * (Int32.ofNat c)) + rr))) (by decide) rfl rfl nb_s zl_s (Or.inl (List.mem_of_getElem? (i := 0) rfl)) fun T33 h33 X33 W33 => ?_
    have z33 := W33.size; have Fw33 := F31.same W33
    refine g_goto X33 d21_157 ?_
    exact g_return X33 d21_186 (by decide) (by decide) ⟨rfl, rfl⟩
  ·
    refine g_icmpT X2 d21_47 (XT.ii_ge_t hlt) ?_
    refine g_aloadN X2 d21_160 rfl rfl ?_
    refine g_aloadN X2 d21_161 rfl rfl ?_
    have F34 := (Fs_members.other W2 (Or.inr (slot_ne (Or.inr (w101 hw)) (Or.inr (w99 hw)) (by decide) (t := (.array .int)) (t' := .int) (by decide) (by decide))))
    have E_35 := (E_s.wr W2)
    refine g_putfield X2 d21_162 (w100 hw) Via.refl F34 E_35 (Or.inr ⟨(w101 hw), rfl, rfl⟩) (w92 hw) (ty := (.array .int)) (v' := (.ref r)) (by decide) rfl rfl nb_s zl_s (Or.inl (List.mem_of_getElem? (i := 0) rfl)) fun T36 h36 X36 W36 => ?_
    have z36 := W36.size; have Fw36 := F34.same W36
    refine g_aloadN X36 d21_165 rfl rfl ?_
    refine g_aconst_null X36 d21_166 ?_
    have F37 := ((Fs_bits.other W2 (Or.inr (slot_ne (Or.inr (w103 hw)) (Or.inr (w99 hw)) (by decide) (t := (.array .long)) (t' := .int) (by decide) (by decide)))).other W36 (Or.inr (slot_ne (Or.inr (w103 hw)) (Or.inr (w101 hw)) (by decide) (t := (.array .long)) (t' := (.array .int)) (by decide) (by decide))))
    have E_38 := (E_35.wr W36)
    refine g_putfield X36 d21_167 (w102 hw) Via.refl F37 E_38 (Or.inr ⟨(w103 hw), rfl, rfl⟩) (w92 hw) (ty := (.array .long)) (v' := .null) (by decide) rfl rfl nb_s zl_s (Or.inl (List.mem_of_getElem? (i := 0) rfl)) fun T39 h39 X39 W39 => ?_
    have z39 := W39.size; have Fw39 := F37.same W39
    refine g_aloadN X39 d21_170 rfl rfl ?_
    refine g_iloadN X39 d21_171 rfl ?_
    have F40 := (((Fs_numbers.other W2 (Or.inr (slot_ne (Or.inr (w105 hw)) (Or.inr (w99 hw)) (by decide) (t := .int) (t' := .int) (by decide) (by decide)))).other W36 (Or.inr (slot_ne (Or.inr (w105 hw)) (Or.inr (w101 hw)) (by decide) (t := .int) (t' := (.array .int)) (by decide) (by decide)))).other W39 (Or.inr (slot_ne (Or.inr (w105 hw)) (Or.inr (w103 hw)) (by decide) (t := .int) (t' := (.array .long)) (by decide) (by decide))))
    have E_41 := (E_38.wr W39)
    refine g_putfield X39 d21_172 (w104 hw) Via.refl F40 E_41 (Or.inr ⟨(w105 hw), rfl, rfl⟩) (w92 hw) (ty := .int) (v' := (.int (2 : Int32))) (by decide) rfl rfl nb_s zl_s (Or.inl (List.mem_of_getElem? (i := 0) rfl)) fun T42 h42 X42 W42 => ?_
    have z42 := W42.size; have Fw42 := F40.same W42
    refine g_aloadN X42 d21_175 rfl rfl ?_
    refine g_aloadN X42 d21_176 rfl rfl ?_
    have F43 := ((Fw36.other W39 (Or.inr (slot_ne (Or.inr (w101 hw)) (Or.inr (w103 hw)) (by decide) (t := (.array .int)) (t' := (.array .long)) (by decide) (by decide)))).other W42 (Or.inr (slot_ne (Or.inr (w101 hw)) (Or.inr (w105 hw)) (by decide) (t := (.array .int)) (t' := .int) (by decide) (by decide))))
    refine g_getfield X42 d21_177 (w100 hw) Via.refl F43 fun T44 X44 => ?_
    have A45 := ((((A.keep (Keep.of_wr W2) (ninS (Ne.symm nsr) nin0)).keep (Keep.of_wr W36) (ninS (Ne.symm nsr) nin0)).keep (Keep.of_wr W39) (ninS (Ne.symm nsr) nin0)).keep (Keep.of_wr W42) (ninS (Ne.symm nsr) nin0))
    have E_46 := ((((E_r.wr W2).wr W36).wr W39).wr W42)
    refine g_callS X44 d21_180 (w117 hw) (w118 hw) (w55 hw) (w119 hw) (by decide) pd13 [(.ref r)] [(.ref s)] 1 (c_hashI hw hs r _ _ A45 E_46) rfl rfl rfl (Nat.le_of_eq rfl) (by decide) (by decide) 0 0 rfl rfl (by decide) (by decide) (fun _ q => nomatch q) fun v47 T47 h47 B47 X47 K47 M47 q47 => ?_
    obtain ⟨rr, rfl, rfl, rfl⟩ := q47
    have z47 := K47.1
    show Go x (T47.setTop (mkF x.m 183 #[.val (.ref s), .val (.ref r), .val (.int (2 : Int32)), .val (.int (Int32.ofNat (e + 1))), .unset, .unset, .unset, .unset, .unset] [(.int rr), (.ref s)]))
    have F48 := ((((Fs_hash.other W2 (Or.inr (slot_ne (Or.inr (w110 hw)) (Or.inr (w99 hw)) (by decide) (t := .int) (t' := .int) (by decide) (by decide)))).other W36 (Or.inr (slot_ne (Or.inr (w110 hw)) (Or.inr (w101 hw)) (by decide) (t := .int) (t' := (.array .int)) (by decide) (by decide)))).other W39 (Or.inr (slot_ne (Or.inr (w110 hw)) (Or.inr (w103 hw)) (by decide) (t := .int) (t' := (.array .long)) (by decide) (by decide)))).other W42 (Or.inr (slot_ne (Or.inr (w110 hw)) (Or.inr (w105 hw)) (by decide) (t := .int) (t' := .int) (by decide) (by decide))))
    have E_49 := (E_41.wr W42)
    refine g_putfield X47 d21_183 (w109 hw) Via.refl F48 E_49 (Or.inr ⟨(w110 hw), rfl, rfl⟩) (w92 hw) (ty := .int) (v' := (.int rr)) (by decide) rfl rfl nb_s zl_s (Or.inl (List.mem_of_getElem? (i := 0) rfl)) fun T50 h50 X50 W50 => ?_
    have z50 := W50.size; have Fw50 := F48.same W50
    exact g_return X50 d21_186 (by decide) (by decide) ⟨rfl, rfl⟩
set_option maxRecDepth 65536 in
set_option maxHeartbeats 40000000 in
theorem c_build1 {nw : Bool} {l : Launch} {Z : State} {EL : List (String × Nat)} {a0 : Array Value} (hw : HW Z a0) (hs : Sts Z) {h0 : Heap} {B0 : BP} (b i t u : Addr) (c : Nat) (x1 x2 x3 : Int32) (L : List Int64) (S : BS Z h0 b i t u L [Int32.ofNat c] [x1, x2, x3]) (hc : c < 4096) (hcb : bit L c) (hbit : ∀ z, bit L z → z = c) (nb_b : ¬ B0 b) (zl_b : Z.heap.size ≤ b) (nb_i : ¬ B0 i) (zl_i : Z.heap.size ≤ i) (nb_t : ¬ B0 t) (zl_t : Z.heap.size ≤ t) (nb_u : ¬ B0 u) (zl_u : Z.heap.size ≤ u) (ntu : @Ne Nat t u)  :
    Con nw l Z EL (⟨"com/example/verichor/verichor/explore/StateSet$Builder", "build", "()Lcom/example/verichor/verichor/explore/StateSet;"⟩ : MethodName) prog_218_method_4_code 6 (some (.object "com/example/verichor/verichor/explore/StateSet")) [] ({ frames := 5, cells := 3, slots := 8, locals := 93 } : Room) #[(.ref b)] h0 B0 [b, i, t, u] (fun v h B => ∃ s L' p pd', v = some (.ref s) ∧ B0 = B ∧ L'.length = L.length ∧ pd'.length = 3 ∧ BS Z h b i t u L' [] (p :: pd') ∧ ∀ z, ¬ bit L' z) := by
  refine k_intro (Ls := #[.val (.ref b), .unset, .unset, .unset, .unset, .unset]) (by decide +kernel) rfl fun x T0 X0 => ?_
  have ms_len : ([Int32.ofNat c] : List Int32).length = 1 := rfl
  obtain ⟨E_b, Fb_added, Fb_members, E_i, Fi_values, Fi_size, A_t, A_u⟩ := S.op
  have lt_b := k_ltE E_b; have lt_i := k_ltE E_i; have lt_t := A_t.lt; have lt_u := A_u.lt
  have nbi : b ≠ i := ne_exa E_b E_i (by decide)
  have nbt : b ≠ t := Ay.ne E_b (w2 hw) A_t
  have nbu : b ≠ u := Ay.ne E_b (w2 hw) A_u
  have nit : i ≠ t := Ay.ne E_i (w14 hw) A_t
  have niu : i ≠ u := Ay.ne E_i (w14 hw) A_u
  have A_u' : Ay Z h0 u .int [.int (Int32.ofNat c), .int x1, .int x2, .int x3] := A_u
  refine g_aloadN X0 d22_0 rfl rfl ?_
  refine g_getfield X0 d22_1 (w23 hw) Via.refl Fb_members fun T1 X1 => ?_
  refine g_callV X1 d22_4 (w48 hw) (w49 hw) (w51 hw) (w50 hw) (w15 hw) (w52 hw) (by decide) pd0 i [] [] 0 E_i (c_intsSort1 hw hs i u (Int32.ofNat c) x1 x2 x3 Fi_values Fi_size A_u' nb_u zl_u) rfl rfl rfl (Nat.le_of_eq rfl) (by decide) (by decide) 0 0 rfl rfl (by decide) (by decide) (k_ws1 ⟨nb_u, zl_u, (Or.inl (List.mem_of_getElem? (i := 3) rfl))⟩) fun v2 T2 h2 B2 X2 K2 M2 q2 => ?_
  obtain ⟨rfl, rfl, Au⟩ := q2
  have z2 := K2.1
  show Go x (T2.setTop (mkF x.m 7 #[.val (.ref b), .unset, .unset, .unset, .unset, .unset] []))
  refine g_aloadN X2 d22_7 rfl rfl ?_
  have F3 := (Fb_members.keep K2 (ninS nbu nin0))
  refine g_getfield X2 d22_8 (w23 hw) Via.refl F3 fun T4 X4 => ?_
  have F5 := (Fi_values.keep K2 (ninS niu nin0))
  have F6 := (Fi_size.keep K2 (ninS niu nin0))
  have E_8 := (E_i.keep K2)
  refine g_callV X4 d22_11 (w70 hw) (w71 hw) (w73 hw) (w72 hw) (w15 hw) (w74 hw) (by decide) pd14 i [] [] 0 E_8 (c_toArray1 hw hs i u (Int32.ofNat c) x1 x2 x3 F5 F6 Au) rfl rfl rfl (Nat.le_of_eq rfl) (by decide) (by decide) 1 2 rfl rfl (by decide) (by decide) (fun _ q => nomatch q) fun v7 T7 h7 B7 X7 K7 M7 q7 => ?_
  obtain ⟨r, rfl, rfl, fr, nbr, Ar, Er⟩ := q7
  have z7 := K7.1
  show Go x (T7.setTop (mkF x.m 14 #[.val (.ref b), .unset, .unset, .unset, .unset, .unset] [(.ref r)]))
  have lt_r := Ar.lt
  refine g_astoreN X7 #[.val (.ref b), .val (.ref r), .unset, .unset, .unset, .unset] d22_14 rfl rfl ?_
  refine g_aloadN X7 d22_15 rfl rfl ?_
  refine g_astoreN X7 #[.val (.ref b), .val (.ref r), .val (.ref r), .unset, .unset, .unset] d22_16 rfl rfl ?_
  refine g_aloadN X7 d22_17 rfl rfl ?_
  refine g_arraylength X7 d22_18 Ar (1 : Int32) rfl ?_
  refine g_istoreN X7 #[.val (.ref b), .val (.ref r), .val (.ref r), .val (.int (1 : Int32)), .unset, .unset] d22_19 rfl ?_
  refine g_iconst X7 (0 : Int32) d22_20 (by decide) ?_
  refine g_istore X7 #[.val (.ref b), .val (.ref r), .val (.ref r), .val (.int (1 : Int32)), .val (.int (0 : Int32)), .unset] d22_21 rfl ?_
  refine g_iload X7 d22_23 rfl ?_
  refine g_iloadN X7 d22_25 rfl ?_
  refine g_icmpF X7 d22_26 (by decide) ?_
  refine g_aloadN X7 d22_29 rfl rfl ?_
  refine g_iload X7 d22_30 rfl ?_
  refine g_iaload X7 d22_32 Ar 0 (by decide) (by rfl) ?_
  refine g_istore X7 #[.val (.ref b), .val (.ref r), .val (.ref r), .val (.int (1 : Int32)), .val (.int (0 : Int32)), .val (.int (Int32.ofNat c))] d22_33 rfl ?_
  refine g_aloadN X7 d22_35 rfl rfl ?_
  have F9 := ((Fb_added.keep K2 (ninS nbu nin0)).keep K7 nin0)
  refine g_getfield X7 d22_36 (w11 hw) Via.refl F9 fun T10 X10 => ?_
  refine g_iload X10 d22_39 rfl ?_
  refine g_bipush X10 (64 : Int32) d22_41 (by decide) ?_
  refine g_idiv X10 (Int32.ofNat (c / 64)) d22_43 (by decide) (k_divn (d := 64) (by omega) (by decide) (by decide)) ?_
  refine g_lconst X10 (0 : Int64) d22_44 (by decide) ?_
  have hin0 : c / 64 < L.length := by have := bit_lt hcb; simpa using this
  have A11 := ((A_t.keep K2 (ninS ntu nin0)).keep K7 nin0)
  refine g_lastore X10 d22_45 A11 (c / 64) rfl (0 : Int64) rfl (by simpa using hin0) nb_t zl_t (Or.inl (List.mem_of_getElem? (i := 2) rfl)) fun T12 h12 X12 K12 A12 => ?_
  have z12 := K12.1
  have A12b : Ay Z h12 t .long ((L.set (c / 64) 0).map Value.long) := by rw [List.map_set]; exact A12
  refine g_iinc X12 #[.val (.ref b), .val (.ref r), .val (.ref r), .val (.int (1 : Int32)), .val (.int (1 : Int32)), .val (.int (Int32.ofNat c))] d22_46 rfl (by decide) rfl ?_
  refine g_goto X12 d22_49 ?_
  refine g_iload X12 d22_23 rfl ?_
  refine g_iloadN X12 d22_25 rfl ?_
  refine g_icmpT X12 d22_26 (by decide) ?_
  refine g_aloadN X12 d22_52 rfl rfl ?_
  have F13 := ((F3.keep K7 nin0).keep K12 (ninS nbt nin0))
  refine g_getfield X12 d22_53 (w23 hw) Via.refl F13 fun T14 X14 => ?_
  have F15 := ((F5.keep K7 nin0).keep K12 (ninS nit nin0))
  have E_16 := ((E_8.keep K7).keep K12)
  have F17 := ((F6.keep K7 nin0).keep K12 (ninS nit nin0))
  refine g_callV X14 d22_56 (w86 hw) (w87 hw) (w89 hw) (w88 hw) (w15 hw) (w90 hw) (by decide) pd0 i [] [] 0 E_16 (c_clear hw hs i E_16 F17 nb_i zl_i) rfl rfl rfl (Nat.le_of_eq rfl) (by decide) (by decide) 1 2 rfl rfl (by decide) (by decide) (k_ws1 ⟨nb_i, zl_i, (Or.inl (List.mem_of_getElem? (i := 1) rfl))⟩) fun v18 T18 h18 B18 X18 K18 M18 q18 => ?_
  obtain ⟨rfl, rfl, Ei, Fs, Fk⟩ := q18
  have z18 := K18.1
  show Go x (T18.setTop (mkF x.m 59 #[.val (.ref b), .val (.ref r), .val (.ref r), .val (.int (1 : Int32)), .val (.int (1 : Int32)), .val (.int (Int32.ofNat c))] []))
  have Fv := Fk _ F15
  refine g_new X18 d22_59 (w91 hw) (w92 hw) (w93 hw) 2 7 rfl rfl (by decide) (by decide) fun T19 h19 b19 X19 E19 eb19 nb19 Ex19 D19 => ?_
  have z19 := E19.1; have lt19 : @LT.lt Nat _ b19 h19.size := Ex19.lt; have zl19 : @LE.le Nat _ Z.heap.size b19 := eb19 ▸ X18.szZ; have fr19 : @LE.le Nat _ h0.size b19 := eb19 ▸ X18.sz
  have F19_lowest : Fld Z h19 b19 "com/example/verichor/verichor/explore/StateSet" "lowest" "I" (.int (0 : Int32)) := D19 (Or.inr (w99 hw)) (ty := .int) (by decide)
  have F19_members : Fld Z h19 b19 "com/example/verichor/verichor/explore/StateSet" "members" "[I" .null := D19 (Or.inr (w101 hw)) (ty := (.array .int)) (by decide)
  have F19_bits : Fld Z h19 b19 "com/example/verichor/verichor/explore/StateSet" "bits" "[J" .null := D19 (Or.inr (w103 hw)) (ty := (.array .long)) (by decide)
  have F19_numbers : Fld Z h19 b19 "com/example/verichor/verichor/explore/StateSet" "numbers" "I" (.int (0 : Int32)) := D19 (Or.inr (w105 hw)) (ty := .int) (by decide)
  have F19_hash : Fld Z h19 b19 "com/example/verichor/verichor/explore/StateSet" "hash" "I" (.int (0 : Int32)) := D19 (Or.inr (w110 hw)) (ty := .int) (by decide)
  refine g_dup X19 d22_62 rfl ?_
  refine g_aloadN X19 d22_63 rfl rfl ?_
  have A20 := (((Ar.keep K12 (ninS (k_neN (by omega)) nin0)).keep K18 (ninS (k_neN (by omega)) nin0)).ext E19)
  refine g_callN X19 d22_64 (w94 hw) (w95 hw) (w93 hw) (w96 hw) rfl (by decide) pd15 b19 [(.ref r)] [(.ref b19)] 1 (c_ssInit1 hw hs b19 r (Int32.ofNat c) Ex19 F19_lowest F19_members F19_bits F19_numbers F19_hash nb19 zl19 A20) rfl rfl rfl (Nat.le_of_eq rfl) (by decide) (by decide) 3 8 rfl rfl (by decide) (by decide) (k_ws1 ⟨nb19, zl19, (Or.inr fr19)⟩) fun v21 T21 h21 B21 X21 K21 M21 q21 => ?_
  obtain ⟨rfl, rfl⟩ := q21
  have z21 := K21.1
  show Go x (T21.setTop (mkF x.m 67 #[.val (.ref b), .val (.ref r), .val (.ref r), .val (.int (1 : Int32)), .val (.int (1 : Int32)), .val (.int (Int32.ofNat c))] [(.ref b19)]))
  have E_22 := ((((((E_b.keep K2).keep K7).keep K12).keep K18).ext E19).keep K21)
  have F23 := ((((F9.keep K12 (ninS nbt nin0)).keep K18 (ninS nbi nin0)).ext E19).keep K21 (ninS (k_neN (by omega)) nin0))
  have F24 := (((F13.keep K18 (ninS nbi nin0)).ext E19).keep K21 (ninS (k_neN (by omega)) nin0))
  have E_25 := ((Ei.ext E19).keep K21)
  have F26 := ((Fv.ext E19).keep K21 (ninS (k_neN (by omega)) nin0))
  have F27 := ((Fs.ext E19).keep K21 (ninS (k_neN (by omega)) nin0))
  have A28 := (((A12b.keep K18 (ninS (Ne.symm nit) nin0)).ext E19).keep K21 (ninS (k_neN (by omega)) nin0))
  have A29 := (((((Au.keep K7 nin0).keep K12 (ninS (Ne.symm ntu) nin0)).keep K18 (ninS (Ne.symm niu) nin0)).ext E19).keep K21 (ninS (k_neN (by omega)) nin0))
  exact g_areturn X21 d22_67 rfl rfl rfl (by decide) (by decide) ⟨_, (L.set (c / 64) 0), _, [x1, x2, x3], rfl, rfl, by simp, rfl, ⟨E_22, F23, F24, E_25, F26, F27, A28, A29⟩, fun z hz => bit_clr1 hbit hz⟩
set_option maxRecDepth 65536 in
set_option maxHeartbeats 40000000 in
theorem c_build2 {nw : Bool} {l : Launch} {Z : State} {EL : List (String × Nat)} {a0 : Array Value} (hw : HW Z a0) (hs : Sts Z) {h0 : Heap} {B0 : BP} (b i t u : Addr) (c d : Nat) (x2 x3 : Int32) (L : List Int64) (S : BS Z h0 b i t u L [Int32.ofNat c, Int32.ofNat d] [x2, x3]) (hc : c < 4096) (hcb : bit L c) (hd : d < 4096) (hdb : bit L d) (hcd : c ≠ d) (hbit : ∀ z, bit L z → z = c ∨ z = d) (nb_b : ¬ B0 b) (zl_b : Z.heap.size ≤ b) (nb_i : ¬ B0 i) (zl_i : Z.heap.size ≤ i) (nb_t : ¬ B0 t) (zl_t : Z.heap.size ≤ t) (nb_u : ¬ B0 u) (zl_u : Z.heap.size ≤ u) (ntu : @Ne Nat t u)  :
    Con nw l Z EL (⟨"com/example/verichor/verichor/explore/StateSet$Builder", "build", "()Lcom/example/verichor/verichor/explore/StateSet;"⟩ : MethodName) prog_218_method_4_code 6 (some (.object "com/example/verichor/verichor/explore/StateSet")) [] ({ frames := 5, cells := 3, slots := 8, locals := 93 } : Room) #[(.ref b)] h0 B0 [b, i, t, u] (fun v h B => ∃ s L' p pd', v = some (.ref s) ∧ B0 = B ∧ L'.length = L.length ∧ pd'.length = 3 ∧ BS Z h b i t u L' [] (p :: pd') ∧ ∀ z, ¬ bit L' z) := by
  refine k_intro (Ls := #[.val (.ref b), .unset, .unset, .unset, .unset, .unset]) (by decide +kernel) rfl fun x T0 X0 => ?_
  have ms_len : ([Int32.ofNat c, Int32.ofNat d] : List Int32).length = 2 := rfl
  obtain ⟨E_b, Fb_added, Fb_members, E_i, Fi_values, Fi_size, A_t, A_u⟩ := S.op
  have lt_b := k_ltE E_b; have lt_i := k_ltE E_i; have lt_t := A_t.lt; have lt_u := A_u.lt
  have nbi : b ≠ i := ne_exa E_b E_i (by decide)
  have nbt : b ≠ t := Ay.ne E_b (w2 hw) A_t
  have nbu : b ≠ u := Ay.ne E_b (w2 hw) A_u
  have nit : i ≠ t := Ay.ne E_i (w14 hw) A_t
  have niu : i ≠ u := Ay.ne E_i (w14 hw) A_u
  have A_u' : Ay Z h0 u .int [.int (Int32.ofNat c), .int (Int32.ofNat d), .int x2, .int x3] := A_u
  refine g_aloadN X0 d22_0 rfl rfl ?_
  refine g_getfield X0 d22_1 (w23 hw) Via.refl Fb_members fun T1 X1 => ?_
  refine g_callV X1 d22_4 (w48 hw) (w49 hw) (w51 hw) (w50 hw) (w15 hw) (w52 hw) (by decide) pd0 i [] [] 0 E_i (c_intsSort2 hw hs i u (Int32.ofNat c) (Int32.ofNat d) x2 x3 Fi_values Fi_size A_u' nb_u zl_u (fun g => hcd ((k_eqn (by omega) (by omega)).mp g))) rfl rfl rfl (Nat.le_of_eq rfl) (by decide) (by decide) 0 0 rfl rfl (by decide) (by decide) (k_ws1 ⟨nb_u, zl_u, (Or.inl (List.mem_of_getElem? (i := 3) rfl))⟩) fun v2 T2 h2 B2 X2 K2 M2 q2 => ?_
  obtain ⟨rfl, rfl, c', d', hlt, hor, Au⟩ := q2
  have z2 := K2.1
  show Go x (T2.setTop (mkF x.m 7 #[.val (.ref b), .unset, .unset, .unset, .unset, .unset] []))
  obtain ⟨g, e, rfl, rfl, he, hge, hgb, heb, hbit⟩ := k_sorted hc hd hcb hdb hbit hlt hor
  refine g_aloadN X2 d22_7 rfl rfl ?_
  have F3 := (Fb_members.keep K2 (ninS nbu nin0))
  refine g_getfield X2 d22_8 (w23 hw) Via.refl F3 fun T4 X4 => ?_
  have F5 := (Fi_values.keep K2 (ninS niu nin0))
  have F6 := (Fi_size.keep K2 (ninS niu nin0))
  have E_8 := (E_i.keep K2)
  refine g_callV X4 d22_11 (w70 hw) (w71 hw) (w73 hw) (w72 hw) (w15 hw) (w74 hw) (by decide) pd14 i [] [] 0 E_8 (c_toArray2 hw hs i u (Int32.ofNat g) (Int32.ofNat (g + e)) x2 x3 F5 F6 Au) rfl rfl rfl (Nat.le_of_eq rfl) (by decide) (by decide) 1 2 rfl rfl (by decide) (by decide) (fun _ q => nomatch q) fun v7 T7 h7 B7 X7 K7 M7 q7 => ?_
  obtain ⟨r, rfl, rfl, fr, nbr, Ar, Er⟩ := q7
  have z7 := K7.1
  show Go x (T7.setTop (mkF x.m 14 #[.val (.ref b), .unset, .unset, .unset, .unset, .unset] [(.ref r)]))
  have lt_r := Ar.lt
  refine g_astoreN X7 #[.val (.ref b), .val (.ref r), .unset, .unset, .unset, .unset] d22_14 rfl rfl ?_
  refine g_aloadN X7 d22_15 rfl rfl ?_
  refine g_astoreN X7 #[.val (.ref b), .val (.ref r), .val (.ref r), .unset, .unset, .unset] d22_16 rfl rfl ?_
  refine g_aloadN X7 d22_17 rfl rfl ?_
  refine g_arraylength X7 d22_18 Ar (2 : Int32) rfl ?_
  refine g_istoreN X7 #[.val (.ref b), .val (.ref r), .val (.ref r), .val (.int (2 : Int32)), .unset, .unset] d22_19 rfl ?_
  refine g_iconst X7 (0 : Int32) d22_20 (by decide) ?_
  refine g_istore X7 #[.val (.ref b), .val (.ref r), .val (.ref r), .val (.int (2 : Int32)), .val (.int (0 : Int32)), .unset] d22_21 rfl ?_
  refine g_iload X7 d22_23 rfl ?_
  refine g_iloadN X7 d22_25 rfl ?_
  refine g_icmpF X7 d22_26 (by decide) ?_
  refine g_aloadN X7 d22_29 rfl rfl ?_
  refine g_iload X7 d22_30 rfl ?_
  refine g_iaload X7 d22_32 Ar 0 (by decide) (by rfl) ?_
  refine g_istore X7 #[.val (.ref b), .val (.ref r), .val (.ref r), .val (.int (2 : Int32)), .val (.int (0 : Int32)), .val (.int (Int32.ofNat g))] d22_33 rfl ?_
  refine g_aloadN X7 d22_35 rfl rfl ?_
  have F9 := ((Fb_added.keep K2 (ninS nbu nin0)).keep K7 nin0)
  refine g_getfield X7 d22_36 (w11 hw) Via.refl F9 fun T10 X10 => ?_
  refine g_iload X10 d22_39 rfl ?_
  refine g_bipush X10 (64 : Int32) d22_41 (by decide) ?_
  refine g_idiv X10 (Int32.ofNat (g / 64)) d22_43 (by decide) (k_divn (d := 64) (by omega) (by decide) (by decide)) ?_
  refine g_lconst X10 (0 : Int64) d22_44 (by decide) ?_
  have hin0 : g / 64 < L.length := by have := bit_lt hgb; simpa using this
  have A11 := ((A_t.keep K2 (ninS ntu nin0)).keep K7 nin0)
  refine g_lastore X10 d22_45 A11 (g / 64) rfl (0 : Int64) rfl (by simpa using hin0) nb_t zl_t (Or.inl (List.mem_of_getElem? (i := 2) rfl)) fun T12 h12 X12 K12 A12 => ?_
  have z12 := K12.1
  have A12b : Ay Z h12 t .long ((L.set (g / 64) 0).map Value.long) := by rw [List.map_set]; exact A12
  refine g_iinc X12 #[.val (.ref b), .val (.ref r), .val (.ref r), .val (.int (2 : Int32)), .val (.int (1 : Int32)), .val (.int (Int32.ofNat g))] d22_46 rfl (by decide) rfl ?_
  refine g_goto X12 d22_49 ?_
  refine g_iload X12 d22_23 rfl ?_
  refine g_iloadN X12 d22_25 rfl ?_
  refine g_icmpF X12 d22_26 (by decide) ?_
  refine g_aloadN X12 d22_29 rfl rfl ?_
  refine g_iload X12 d22_30 rfl ?_
  have A13 := (Ar.keep K12 (ninS (k_neN (by omega)) nin0))
  refine g_iaload X12 d22_32 A13 1 (by decide) (by rfl) ?_
  refine g_istore X12 #[.val (.ref b), .val (.ref r), .val (.ref r), .val (.int (2 : Int32)), .val (.int (1 : Int32)), .val (.int (Int32.ofNat (g + e)))] d22_33 rfl ?_
  refine g_aloadN X12 d22_35 rfl rfl ?_
  have F14 := (F9.keep K12 (ninS nbt nin0))
  refine g_getfield X12 d22_36 (w11 hw) Via.refl F14 fun T15 X15 => ?_
  refine g_iload X15 d22_39 rfl ?_
  refine g_bipush X15 (64 : Int32) d22_41 (by decide) ?_
  refine g_idiv X15 (Int32.ofNat ((g + e) / 64)) d22_43 (by decide) (k_divn (d := 64) (by omega) (by decide) (by decide)) ?_
  refine g_lconst X15 (0 : Int64) d22_44 (by decide) ?_
  have hin1 : (g + e) / 64 < (L.set (g / 64) 0).length := by have := bit_lt heb; simpa using this
  refine g_lastore X15 d22_45 A12b ((g + e) / 64) rfl (0 : Int64) rfl (by simpa using hin1) nb_t zl_t (Or.inl (List.mem_of_getElem? (i := 2) rfl)) fun T16 h16 X16 K16 A16 => ?_
  have z16 := K16.1
  have A16b : Ay Z h16 t .long (((L.set (g / 64) 0).set ((g + e) / 64) 0).map Value.long) := by rw [List.map_set]; exact A16
  refine g_iinc X16 #[.val (.ref b), .val (.ref r), .val (.ref r), .val (.int (2 : Int32)), .val (.int (2 : Int32)), .val (.int (Int32.ofNat (g + e)))] d22_46 rfl (by decide) rfl ?_
  refine g_goto X16 d22_49 ?_
  refine g_iload X16 d22_23 rfl ?_
  refine g_iloadN X16 d22_25 rfl ?_
  refine g_icmpT X16 d22_26 (by decide) ?_
  refine g_aloadN X16 d22_52 rfl rfl ?_
  have F17 := (((F3.keep K7 nin0).keep K12 (ninS nbt nin0)).keep K16 (ninS nbt nin0))
  refine g_getfield X16 d22_53 (w23 hw) Via.refl F17 fun T18 X18 => ?_
  have F19 := (((F5.keep K7 nin0).keep K12 (ninS nit nin0)).keep K16 (ninS nit nin0))
  have E_20 := (((E_8.keep K7).keep K12).keep K16)
  have F21 := (((F6.keep K7 nin0).keep K12 (ninS nit nin0)).keep K16 (ninS nit nin0))
  refine g_callV X18 d22_56 (w86 hw) (w87 hw) (w89 hw) (w88 hw) (w15 hw) (w90 hw) (by decide) pd0 i [] [] 0 E_20 (c_clear hw hs i E_20 F21 nb_i zl_i) rfl rfl rfl (Nat.le_of_eq rfl) (by decide) (by decide) 1 2 rfl rfl (by decide) (by decide) (k_ws1 ⟨nb_i, zl_i, (Or.inl (List.mem_of_getElem? (i := 1) rfl))⟩) fun v22 T22 h22 B22 X22 K22 M22 q22 => ?_
  obtain ⟨rfl, rfl, Ei, Fs, Fk⟩ := q22
  have z22 := K22.1
  show Go x (T22.setTop (mkF x.m 59 #[.val (.ref b), .val (.ref r), .val (.ref r), .val (.int (2 : Int32)), .val (.int (2 : Int32)), .val (.int (Int32.ofNat (g + e)))] []))
  have Fv := Fk _ F19
  refine g_new X22 d22_59 (w91 hw) (w92 hw) (w93 hw) 2 7 rfl rfl (by decide) (by decide) fun T23 h23 b23 X23 E23 eb23 nb23 Ex23 D23 => ?_
  have z23 := E23.1; have lt23 : @LT.lt Nat _ b23 h23.size := Ex23.lt; have zl23 : @LE.le Nat _ Z.heap.size b23 := eb23 ▸ X22.szZ; have fr23 : @LE.le Nat _ h0.size b23 := eb23 ▸ X22.sz
  have F23_lowest : Fld Z h23 b23 "com/example/verichor/verichor/explore/StateSet" "lowest" "I" (.int (0 : Int32)) := D23 (Or.inr (w99 hw)) (ty := .int) (by decide)
  have F23_members : Fld Z h23 b23 "com/example/verichor/verichor/explore/StateSet" "members" "[I" .null := D23 (Or.inr (w101 hw)) (ty := (.array .int)) (by decide)
  have F23_bits : Fld Z h23 b23 "com/example/verichor/verichor/explore/StateSet" "bits" "[J" .null := D23 (Or.inr (w103 hw)) (ty := (.array .long)) (by decide)
  have F23_numbers : Fld Z h23 b23 "com/example/verichor/verichor/explore/StateSet" "numbers" "I" (.int (0 : Int32)) := D23 (Or.inr (w105 hw)) (ty := .int) (by decide)
  have F23_hash : Fld Z h23 b23 "com/example/verichor/verichor/explore/StateSet" "hash" "I" (.int (0 : Int32)) := D23 (Or.inr (w110 hw)) (ty := .int) (by decide)
  refine g_dup X23 d22_62 rfl ?_
  refine g_aloadN X23 d22_63 rfl rfl ?_
  have A24 := (((A13.keep K16 (ninS (k_neN (by omega)) nin0)).keep K22 (ninS (k_neN (by omega)) nin0)).ext E23)
  have E_25 := ((((Er.keep K12).keep K16).keep K22).ext E23)
  refine g_callN X23 d22_64 (w94 hw) (w95 hw) (w93 hw) (w96 hw) rfl (by decide) pd15 b23 [(.ref r)] [(.ref b23)] 1 (c_ssInit2 hw hs b23 r g e Ex23 F23_lowest F23_members F23_bits F23_numbers F23_hash nb23 zl23 A24 he hge E_25) rfl rfl rfl (Nat.le_of_eq rfl) (by decide) (by decide) 3 8 rfl rfl (by decide) (by decide) (k_ws1 ⟨nb23, zl23, (Or.inr fr23)⟩) fun v26 T26 h26 B26 X26 K26 M26 q26 => ?_
  obtain ⟨rfl, rfl⟩ := q26
  have z26 := K26.1
  show Go x (T26.setTop (mkF x.m 67 #[.val (.ref b), .val (.ref r), .val (.ref r), .val (.int (2 : Int32)), .val (.int (2 : Int32)), .val (.int (Int32.ofNat (g + e)))] [(.ref b23)]))
  have E_27 := (((((((E_b.keep K2).keep K7).keep K12).keep K16).keep K22).ext E23).keep K26)
  have F28 := ((((F14.keep K16 (ninS nbt nin0)).keep K22 (ninS nbi nin0)).ext E23).keep K26 (ninS (k_neN (by omega)) nin0))
  have F29 := (((F17.keep K22 (ninS nbi nin0)).ext E23).keep K26 (ninS (k_neN (by omega)) nin0))
  have E_30 := ((Ei.ext E23).keep K26)
  have F31 := ((Fv.ext E23).keep K26 (ninS (k_neN (by omega)) nin0))
  have F32 := ((Fs.ext E23).keep K26 (ninS (k_neN (by omega)) nin0))
  have A33 := (((A16b.keep K22 (ninS (Ne.symm nit) nin0)).ext E23).keep K26 (ninS (k_neN (by omega)) nin0))
  have A34 := ((((((Au.keep K7 nin0).keep K12 (ninS (Ne.symm ntu) nin0)).keep K16 (ninS (Ne.symm ntu) nin0)).keep K22 (ninS (Ne.symm niu) nin0)).ext E23).keep K26 (ninS (k_neN (by omega)) nin0))
  exact g_areturn X26 d22_67 rfl rfl rfl (by decide) (by decide) ⟨_, ((L.set (g / 64) 0).set ((g + e) / 64) 0), _, [(Int32.ofNat (g + e)), x2, x3], rfl, rfl, by simp, rfl, ⟨E_27, F28, F29, E_30, F31, F32, A33, A34⟩, fun z hz => bit_clr2 hbit hz⟩
set_option maxRecDepth 65536 in
set_option maxHeartbeats 40000000 in
theorem c_law {l : Launch} {Z : State} {a0 : Array Value} (hw : HW Z a0) (hs : Sts Z) {h0 : Heap} {B0 : BP} (p0 p1 p2 p3 p4 : Int32) (hZ0 : h0.size ≤ Z.heap.size) :
    Con true l Z [] (⟨"com/example/verichor/verichor/explore/BuilderContainsPinLaw", "law", "(IIIII)Z"⟩ : MethodName) code 13 (some .boolean) tables_1 room_1 #[(.int p0), (.int p1), (.int p2), (.int p3), (.int p4)] h0 B0 [] (fun v h B => v = some (.int 1)) := by
  refine k_intro (Ls := #[.val (.int p0), .val (.int p1), .val (.int p2), .val (.int p3), .val (.int p4), .unset, .unset, .unset, .unset, .unset, .unset, .unset, .unset]) (by decide +kernel) rfl fun x T0 X0 => ?_
  obtain ⟨sa, hsa, esa⟩ := k_and12 p0
  obtain ⟨sc, hsc, esc⟩ := k_and12 p1
  obtain ⟨sd, hsd, esd⟩ := k_and12 p2
  refine g_iloadN X0 d23_0 rfl ?_
  refine g_sipush X0 (4095 : Int32) d23_1 (by decide) ?_
  refine g_iand X0 (Int32.ofNat sa) d23_4 esa ?_
  refine g_istore X0 #[.val (.int p0), .val (.int p1), .val (.int p2), .val (.int p3), .val (.int p4), .val (.int (Int32.ofNat sa)), .unset, .unset, .unset, .unset, .unset, .unset, .unset] d23_5 rfl ?_
  refine g_iloadN X0 d23_7 rfl ?_
  refine g_sipush X0 (4095 : Int32) d23_8 (by decide) ?_
  refine g_iand X0 (Int32.ofNat sc) d23_11 esc ?_
  refine g_istore X0 #[.val (.int p0), .val (.int p1), .val (.int p2), .val (.int p3), .val (.int p4), .val (.int (Int32.ofNat sa)), .val (.int (Int32.ofNat sc)), .unset, .unset, .unset, .unset, .unset, .unset] d23_12 rfl ?_
  refine g_iloadN X0 d23_14 rfl ?_
  refine g_sipush X0 (4095 : Int32) d23_15 (by decide) ?_
  refine g_iand X0 (Int32.ofNat sd) d23_18 esd ?_
  refine g_istore X0 #[.val (.int p0), .val (.int p1), .val (.int p2), .val (.int p3), .val (.int p4), .val (.int (Int32.ofNat sa)), .val (.int (Int32.ofNat sc)), .val (.int (Int32.ofNat sd)), .unset, .unset, .unset, .unset, .unset] d23_19 rfl ?_
  refine g_iload X0 d23_21 rfl ?_
  refine g_iconst X0 (1 : Int32) d23_23 (by decide) ?_
  refine g_iand X0 (p4 &&& (1 : Int32)) d23_24 rfl ?_
  have rest : ∀ (bt : Int32) (hbt : bt = 0 ∨ bt = 1), Go x (T0.setTop (mkF x.m 35 #[.val (.int p0), .val (.int p1), .val (.int p2), .val (.int p3), .val (.int p4), .val (.int (Int32.ofNat sa)), .val (.int (Int32.ofNat sc)), .val (.int (Int32.ofNat sd)), .val (.int bt), .unset, .unset, .unset, .unset] [])) := by
    intro bt hbt
    refine g_iload X0 d23_35 rfl ?_
    refine g_iconst X0 (1 : Int32) d23_37 (by decide) ?_
    refine g_iushr X0 (XT.ushr p4 (1 : Int32)) d23_38 rfl ?_
    refine g_iconst X0 (3 : Int32) d23_39 (by decide) ?_
    refine g_iand X0 ((XT.ushr p4 (1 : Int32)) &&& (3 : Int32)) d23_40 rfl ?_
    refine g_istore X0 #[.val (.int p0), .val (.int p1), .val (.int p2), .val (.int p3), .val (.int p4), .val (.int (Int32.ofNat sa)), .val (.int (Int32.ofNat sc)), .val (.int (Int32.ofNat sd)), .val (.int bt), .val (.int ((XT.ushr p4 (1 : Int32)) &&& (3 : Int32))), .unset, .unset, .unset] d23_41 rfl ?_
    refine g_iload X0 d23_43 rfl ?_
    have rest2 : ∀ (q : Nat) (hq : q < 2 ^ 31), Go x (T0.setTop (mkF x.m 94 #[.val (.int p0), .val (.int p1), .val (.int p2), .val (.int p3), .val (.int p4), .val (.int (Int32.ofNat sa)), .val (.int (Int32.ofNat sc)), .val (.int (Int32.ofNat sd)), .val (.int bt), .val (.int ((XT.ushr p4 (1 : Int32)) &&& (3 : Int32))), .val (.int (Int32.ofNat q)), .unset, .unset] [])) := by
      intro q hq
      refine g_new X0 d23_94 (w1 hw) (w2 hw) (w3 hw) 1 2 rfl rfl (by decide) (by decide) fun T1 h1 b1 X1 E1 eb1 nb1 Ex1 D1 => ?_
      have z1 := E1.1; have lt1 : @LT.lt Nat _ b1 h1.size := Ex1.lt; have zl1 : @LE.le Nat _ Z.heap.size b1 := eb1 ▸ X0.szZ; have fr1 : @LE.le Nat _ h0.size b1 := eb1 ▸ X0.sz
      have F1_added : Fld Z h1 b1 "com/example/verichor/verichor/explore/StateSet$Builder" "added" "[J" .null := D1 (Or.inl (w12 hw)) (ty := (.array .long)) (by decide)
      have F1_members : Fld Z h1 b1 "com/example/verichor/verichor/explore/StateSet$Builder" "members" "Lcom/example/verichor/verichor/composition/Ints;" .null := D1 (Or.inr (w24 hw)) (ty := (.object "com/example/verichor/verichor/composition/Ints")) (by decide)
      refine g_dup X1 d23_97 rfl ?_
      refine g_callI X1 d23_98 (w4 hw) (w5 hw) (w3 hw) (w6 hw) rfl (by decide) pd0 b1 [] [(.ref b1)] 1 (c_bldInit hw hs b1 Ex1 F1_added F1_members nb1 zl1) rfl rfl rfl (Nat.le_of_eq rfl) (by decide) (by decide) 4 9 rfl rfl (by decide) (by decide) (k_ws1 ⟨nb1, zl1, (Or.inr fr1)⟩) fun v2 T2 h2 B2 X2 K2 M2 q2 => ?_
      obtain ⟨i, t, u, rfl, rfl, fi, ft, fu, ntu, S0⟩ := q2
      have z2 := K2.1
      show Go x (T2.setTop (mkF x.m 101 #[.val (.int p0), .val (.int p1), .val (.int p2), .val (.int p3), .val (.int p4), .val (.int (Int32.ofNat sa)), .val (.int (Int32.ofNat sc)), .val (.int (Int32.ofNat sd)), .val (.int bt), .val (.int ((XT.ushr p4 (1 : Int32)) &&& (3 : Int32))), .val (.int (Int32.ofNat q)), .unset, .unset] [(.ref b1)]))
      have nb_i := X1.free fi; have nb_t := X1.free ft; have nb_u := X1.free fu
      have zl_i := Nat.le_trans X1.szZ fi; have zl_t := Nat.le_trans X1.szZ ft; have zl_u := Nat.le_trans X1.szZ fu
      have w_i : i ∈ ([] : List Addr) ∨ h0.size ≤ i := Or.inr (Nat.le_trans X1.sz fi)
      have w_t : t ∈ ([] : List Addr) ∨ h0.size ≤ t := Or.inr (Nat.le_trans X1.sz ft)
      have w_u : u ∈ ([] : List Addr) ∨ h0.size ≤ u := Or.inr (Nat.le_trans X1.sz fu)
      have nb_b := nb1; have zl_b := zl1; have w_b : b1 ∈ ([] : List Addr) ∨ h0.size ≤ b1 := Or.inr fr1
      obtain ⟨b, eb⟩ : ∃ z, z = b1 := ⟨_, rfl⟩
      rw [← eb] at S0 nb_b zl_b w_b ⊢
      show Go x (T2.setTop (mkF x.m 101 #[.val (.int p0), .val (.int p1), .val (.int p2), .val (.int p3), .val (.int p4), .val (.int (Int32.ofNat sa)), .val (.int (Int32.ofNat sc)), .val (.int (Int32.ofNat sd)), .val (.int bt), .val (.int ((XT.ushr p4 (1 : Int32)) &&& (3 : Int32))), .val (.int (Int32.ofNat q)), .unset, .unset] [(.ref b)]))
      refine g_astore X2 #[.val (.int p0), .val (.int p1), .val (.int p2), .val (.int p3), .val (.int p4), .val (.int (Int32.ofNat sa)), .val (.int (Int32.ofNat sc)), .val (.int (Int32.ofNat sd)), .val (.int bt), .val (.int ((XT.ushr p4 (1 : Int32)) &&& (3 : Int32))), .val (.int (Int32.ofNat q)), .val (.ref b), .unset] d23_101 rfl rfl ?_
      refine g_aload X2 d23_103 rfl rfl ?_
      refine g_iload X2 d23_105 rfl ?_
      refine g_callV X2 d23_107 (w25 hw) (w26 hw) (w28 hw) (w27 hw) (w3 hw) (w29 hw) (by decide) pd2 b [(.int (Int32.ofNat sa))] [] 0 S0.op.1 (c_add hw hs b i t u sa 0 [0] [] [0, 0, 0] S0 hsa rfl (by decide) nb_b zl_b nb_i zl_i nb_t zl_t nb_u zl_u ntu) rfl rfl rfl (Nat.le_of_eq rfl) (by decide) (by decide) 5 135 rfl rfl (by decide) (by decide) (k_wsC ⟨nb_b, zl_b, w_b⟩ (k_wsC ⟨nb_i, zl_i, w_i⟩ (k_wsC ⟨nb_t, zl_t, w_t⟩ (k_wsC ⟨nb_u, zl_u, w_u⟩ (fun _ q => nomatch q))))) fun v3 T3 h3 B3 X3 K3 M3 q3 => ?_
      obtain ⟨r1, t1x, L1x, ms1x, pd1x, rfl, rfl, ht1, nbt1, zlt1, ntu1, hL1, S1x, hor1⟩ := q3
      have z3 := K3.1
      show Go x (T3.setTop (mkF x.m 110 #[.val (.int p0), .val (.int p1), .val (.int p2), .val (.int p3), .val (.int p4), .val (.int (Int32.ofNat sa)), .val (.int (Int32.ofNat sc)), .val (.int (Int32.ofNat sd)), .val (.int bt), .val (.int ((XT.ushr p4 (1 : Int32)) &&& (3 : Int32))), .val (.int (Int32.ofNat q)), .val (.ref b), .unset] [(.int r1)]))
      have wt1 : t1x ∈ ([] : List Addr) ∨ h0.size ≤ t1x := Or.inr (Nat.le_trans hZ0 zlt1)
      rcases hor1 with ⟨g, -⟩ | ⟨-, rfl, rfl, hbit1⟩
      · exact absurd g (bit_zero sa)
      have hbit1 : ∀ z, bit L1x z ↔ z = sa := fun z => by rw [hbit1]; exact ⟨fun g => g.elim (fun g => absurd g (bit_zero z)) id, Or.inr⟩
      refine g_pop X3 d23_110 rfl ?_
      refine g_aload X3 d23_111 rfl rfl ?_
      refine g_iload X3 d23_113 rfl ?_
      refine g_callV X3 d23_115 (w25 hw) (w26 hw) (w28 hw) (w27 hw) (w3 hw) (w29 hw) (by decide) pd2 b [(.int (Int32.ofNat sc))] [] 0 S1x.op.1 (c_add hw hs b i t1x u sc 0 L1x [Int32.ofNat sa] [0, 0] S1x hsc rfl hL1 nb_b zl_b nb_i zl_i nbt1 zlt1 nb_u zl_u ntu1) rfl rfl rfl (Nat.le_of_eq rfl) (by decide) (by decide) 6 261 rfl rfl (by decide) (by decide) (k_wsC ⟨nb_b, zl_b, w_b⟩ (k_wsC ⟨nb_i, zl_i, w_i⟩ (k_wsC ⟨nbt1, zlt1, wt1⟩ (k_wsC ⟨nb_u, zl_u, w_u⟩ (fun _ q => nomatch q))))) fun v4 T4 h4 B4 X4 K4 M4 q4 => ?_
      obtain ⟨r2, t2x, L2x, ms2x, pd2x, rfl, rfl, ht2, nbt2, zlt2, ntu2, hL2, S2x, hor2⟩ := q4
      have z4 := K4.1
      show Go x (T4.setTop (mkF x.m 118 #[.val (.int p0), .val (.int p1), .val (.int p2), .val (.int p3), .val (.int p4), .val (.int (Int32.ofNat sa)), .val (.int (Int32.ofNat sc)), .val (.int (Int32.ofNat sd)), .val (.int bt), .val (.int ((XT.ushr p4 (1 : Int32)) &&& (3 : Int32))), .val (.int (Int32.ofNat q)), .val (.ref b), .unset] [(.int r2)]))
      have wt2 : t2x ∈ ([] : List Addr) ∨ h0.size ≤ t2x := Or.inr (Nat.le_trans hZ0 zlt2)
      refine g_pop X4 d23_118 rfl ?_
      refine g_iload X4 d23_119 rfl ?_
      have rest3 : ∀ (t' : Addr) (L : List Int64) (ms pd : List Int32) (p : Int32) (nbt : ¬ B0 t') (zlt : Z.heap.size ≤ t') (ntu' : @Ne Nat t' u) (hL : L.length ≤ 126) (hx4 : ms.length + pd.length = 3) (hbit : ∀ z, bit L z ↔ (bt = 0 ∧ (z = sa ∨ z = sc))) (T : State) (h : Heap) (X : Wk true l Z [] "com/example/verichor/verichor/explore/BuilderContainsPinLaw" code 13 (some .boolean) "law" room_1 h0 B0 [] (fun v h B => v = some (.int 1)) x T h B0 9 269) (S : BS Z h b i t' u L ms (p :: pd)), Go x (T.setTop (mkF x.m 130 #[.val (.int p0), .val (.int p1), .val (.int p2), .val (.int p3), .val (.int p4), .val (.int (Int32.ofNat sa)), .val (.int (Int32.ofNat sc)), .val (.int (Int32.ofNat sd)), .val (.int bt), .val (.int ((XT.ushr p4 (1 : Int32)) &&& (3 : Int32))), .val (.int (Int32.ofNat q)), .val (.ref b), .unset] [])) := by
        intro t' L ms pd p nbt zlt ntu' hL hx4 hbit T h X S
        have w_t' : t' ∈ ([] : List Addr) ∨ h0.size ≤ t' := Or.inr (Nat.le_trans hZ0 zlt)
        refine g_aload X d23_130 rfl rfl ?_
        refine g_iload X d23_132 rfl ?_
        refine g_callV X d23_134 (w25 hw) (w26 hw) (w28 hw) (w27 hw) (w3 hw) (w29 hw) (by decide) pd2 b [(.int (Int32.ofNat sd))] [] 0 S.op.1 (c_add hw hs b i t' u sd p L ms pd S hsd (by simp; omega) hL nb_b zl_b nb_i zl_i nbt zlt nb_u zl_u ntu') rfl rfl rfl (Nat.le_of_eq rfl) (by decide) (by decide) 10 395 rfl rfl (by decide) (by decide) (k_wsC ⟨nb_b, zl_b, w_b⟩ (k_wsC ⟨nb_i, zl_i, w_i⟩ (k_wsC ⟨nbt, zlt, w_t'⟩ (k_wsC ⟨nb_u, zl_u, w_u⟩ (fun _ q => nomatch q))))) fun v5 T5 h5 B5 X5 K5 M5 q5 => ?_
        obtain ⟨r3, t3x, L3x, ms3x, pd3x, rfl, rfl, ht3, nbt3, zlt3, ntu3, hL3, S3x, hor3⟩ := q5
        have z5 := K5.1
        show Go x (T5.setTop (mkF x.m 137 #[.val (.int p0), .val (.int p1), .val (.int p2), .val (.int p3), .val (.int p4), .val (.int (Int32.ofNat sa)), .val (.int (Int32.ofNat sc)), .val (.int (Int32.ofNat sd)), .val (.int bt), .val (.int ((XT.ushr p4 (1 : Int32)) &&& (3 : Int32))), .val (.int (Int32.ofNat q)), .val (.ref b), .unset] [(.int r3)]))
        have wt3 : t3x ∈ ([] : List Addr) ∨ h0.size ≤ t3x := Or.inr (Nat.le_trans hZ0 zlt3)
        have hb3 : ∀ z, bit L3x z ↔ (z = sd ∨ (bt = 0 ∧ (z = sa ∨ z = sc))) := fun z => by
          rw [← hbit z]
          rcases hor3 with ⟨g, rfl, -, -⟩ | ⟨-, -, -, g⟩
          · exact ⟨Or.inr, fun r => r.elim (fun r => r ▸ g) id⟩
          · rw [g z]; exact Or.comm
        refine g_pop X5 d23_137 rfl ?_
        refine g_iload X5 d23_138 rfl ?_
        refine g_iload X5 d23_140 rfl ?_
        have rest4 : ∀ (ex : Int32) (hex : ex = if bit L3x q then 1 else 0), Go x (T5.setTop (mkF x.m 169 #[.val (.int p0), .val (.int p1), .val (.int p2), .val (.int p3), .val (.int p4), .val (.int (Int32.ofNat sa)), .val (.int (Int32.ofNat sc)), .val (.int (Int32.ofNat sd)), .val (.int bt), .val (.int ((XT.ushr p4 (1 : Int32)) &&& (3 : Int32))), .val (.int (Int32.ofNat q)), .val (.ref b), .unset] [(.int ex)])) := by
          intro ex hex
          refine g_istore X5 #[.val (.int p0), .val (.int p1), .val (.int p2), .val (.int p3), .val (.int p4), .val (.int (Int32.ofNat sa)), .val (.int (Int32.ofNat sc)), .val (.int (Int32.ofNat sd)), .val (.int bt), .val (.int ((XT.ushr p4 (1 : Int32)) &&& (3 : Int32))), .val (.int (Int32.ofNat q)), .val (.ref b), .val (.int ex)] d23_169 rfl ?_
          refine g_aload X5 d23_171 rfl rfl ?_
          refine g_iload X5 d23_173 rfl ?_
          refine g_callVp X5 d23_175 (w42 hw) (w31 hw) (w33 hw) (w32 hw) (w3 hw) (w34 hw) (by decide) pd2 b [(.int (Int32.ofNat q))] [] 0 S3x.op.1 (c_contains hw hs b i t3x u q L3x _ _ S3x hq) rfl rfl rfl (Nat.le_of_eq rfl) (by decide) (by decide) 10 395 rfl rfl (by decide) (by decide) fun T6 X6 => ?_
          refine g_iload X6 d23_178 rfl ?_
          refine g_icmpF X6 d23_180 (XT.ii_ne_f hex.symm) ?_
          refine g_iconst X6 (1 : Int32) d23_183 (by decide) ?_
          refine g_goto X6 d23_184 ?_
          exact g_ireturn (w' := (1 : Int32)) X6 d23_188 (Or.inl rfl) (by decide) (by decide) (by decide) rfl
        by_cases e1 : (Int32.ofNat q) = (Int32.ofNat sd)
        ·
          refine g_icmpT X5 d23_142 (XT.ii_eq_t e1) ?_
          refine g_iconst X5 (1 : Int32) d23_164 (by decide) ?_
          refine g_goto X5 d23_165 ?_
          exact rest4 1 (by rw [if_pos ((hb3 q).mpr (Or.inl ((k_eqn hq (by omega)).mp e1)))])
        ·
          refine g_icmpF X5 d23_142 (XT.ii_eq_f e1) ?_
          have n1 : ¬ q = sd := fun g => e1 (by rw [g])
          refine g_iload X5 d23_145 rfl ?_
          by_cases e2 : bt = 0
          ·
            refine g_ifF X5 d23_147 (XT.i0_ne_f e2) ?_
            refine g_iload X5 d23_150 rfl ?_
            refine g_iload X5 d23_152 rfl ?_
            by_cases e3 : (Int32.ofNat q) = (Int32.ofNat sa)
            ·
              refine g_icmpT X5 d23_154 (XT.ii_eq_t e3) ?_
              refine g_iconst X5 (1 : Int32) d23_164 (by decide) ?_
              refine g_goto X5 d23_165 ?_
              exact rest4 1 (by rw [if_pos ((hb3 q).mpr (Or.inr ⟨e2, Or.inl ((k_eqn hq (by omega)).mp e3)⟩))])
            ·
              refine g_icmpF X5 d23_154 (XT.ii_eq_f e3) ?_
              have n3 : ¬ q = sa := fun g => e3 (by rw [g])
              refine g_iload X5 d23_157 rfl ?_
              refine g_iload X5 d23_159 rfl ?_
              by_cases e4 : (Int32.ofNat q) = (Int32.ofNat sc)
              ·
                refine g_icmpF X5 d23_161 (XT.ii_ne_f e4) ?_
                refine g_iconst X5 (1 : Int32) d23_164 (by decide) ?_
                refine g_goto X5 d23_165 ?_
                exact rest4 1 (by rw [if_pos ((hb3 q).mpr (Or.inr ⟨e2, Or.inr ((k_eqn hq (by omega)).mp e4)⟩))])
              ·
                refine g_icmpT X5 d23_161 (XT.ii_ne_t e4) ?_
                have n4 : ¬ q = sc := fun g => e4 (by rw [g])
                refine g_iconst X5 (0 : Int32) d23_168 (by decide) ?_
                exact rest4 0 (by rw [if_neg (fun g => ((hb3 q).mp g).elim n1 (fun r => r.2.elim n3 n4))])
          ·
            refine g_ifT X5 d23_147 (XT.i0_ne_t e2) ?_
            refine g_iconst X5 (0 : Int32) d23_168 (by decide) ?_
            exact rest4 0 (by rw [if_neg (fun g => ((hb3 q).mp g).elim n1 (fun r => e2 r.1))])
      by_cases eb0 : bt = 0
      ·
        refine g_ifT X4 d23_121 (XT.i0_eq_t eb0) ?_
        rcases hor2 with ⟨g, rfl, rfl, rfl⟩ | ⟨-, rfl, rfl, g⟩
        · have : sc = sa := (hbit1 sc).mp g
          exact rest3 t2x _ [Int32.ofNat sa] [0, 0] 0 nbt2 zlt2 ntu2 hL2 rfl (fun z => by rw [hbit1, this, eb0]; simp) T4 h4 (X4.more (by decide) (by decide)) S2x
        · skip
          exact rest3 t2x L2x [Int32.ofNat sa, Int32.ofNat sc] [0] 0 nbt2 zlt2 ntu2 hL2 rfl (fun z => by rw [g, hbit1, eb0]; simp) T4 h4 (X4.more (by decide) (by decide)) S2x
      ·
        refine g_ifF X4 d23_121 (XT.i0_eq_f eb0) ?_
        refine g_aload X4 d23_124 rfl rfl ?_
        rcases hor2 with ⟨g, rfl, rfl, rfl⟩ | ⟨ng, rfl, rfl, g⟩
        ·
          refine g_callV X4 d23_126 (w43 hw) (w44 hw) (w46 hw) (w45 hw) (w3 hw) (w47 hw) (by decide) pd16 b [] [] 0 S2x.op.1 (c_build1 hw hs b i t2x u sa 0 0 0 _ S2x hsa ((hbit1 sa).mpr rfl) (fun z g => (hbit1 z).mp g) nb_b zl_b nb_i zl_i nbt2 zlt2 nb_u zl_u ntu2) rfl rfl rfl (Nat.le_of_eq rfl) (by decide) (by decide) 9 269 rfl rfl (by decide) (by decide) (k_wsC ⟨nb_b, zl_b, w_b⟩ (k_wsC ⟨nb_i, zl_i, w_i⟩ (k_wsC ⟨nbt2, zlt2, wt2⟩ (k_wsC ⟨nb_u, zl_u, w_u⟩ (fun _ q => nomatch q))))) fun v7 T7 h7 B7 X7 K7 M7 q7 => ?_
          obtain ⟨s, Lb, p, pd, rfl, rfl, hll, hpl, Sb, hno⟩ := q7
          have z7 := K7.1
          show Go x (T7.setTop (mkF x.m 129 #[.val (.int p0), .val (.int p1), .val (.int p2), .val (.int p3), .val (.int p4), .val (.int (Int32.ofNat sa)), .val (.int (Int32.ofNat sc)), .val (.int (Int32.ofNat sd)), .val (.int bt), .val (.int ((XT.ushr p4 (1 : Int32)) &&& (3 : Int32))), .val (.int (Int32.ofNat q)), .val (.ref b), .unset] [(.ref s)]))
          refine g_pop X7 d23_129 rfl ?_
          exact rest3 t2x Lb [] pd p nbt2 zlt2 ntu2 (by omega) (by simp [hpl]) (fun z => ⟨fun g => absurd g (hno z), fun g => absurd g.1 eb0⟩) T7 h7 X7 Sb
        ·
          refine g_callV X4 d23_126 (w43 hw) (w44 hw) (w46 hw) (w45 hw) (w3 hw) (w47 hw) (by decide) pd16 b [] [] 0 S2x.op.1 (c_build2 hw hs b i t2x u sa sc 0 0 L2x S2x hsa ((g sa).mpr (Or.inl ((hbit1 sa).mpr rfl))) hsc ((g sc).mpr (Or.inr rfl)) (fun e => ng (e ▸ (hbit1 sa).mpr rfl)) (fun z r => ((g z).mp r).imp (hbit1 z).mp id) nb_b zl_b nb_i zl_i nbt2 zlt2 nb_u zl_u ntu2) rfl rfl rfl (Nat.le_of_eq rfl) (by decide) (by decide) 9 269 rfl rfl (by decide) (by decide) (k_wsC ⟨nb_b, zl_b, w_b⟩ (k_wsC ⟨nb_i, zl_i, w_i⟩ (k_wsC ⟨nbt2, zlt2, wt2⟩ (k_wsC ⟨nb_u, zl_u, w_u⟩ (fun _ q => nomatch q))))) fun v8 T8 h8 B8 X8 K8 M8 q8 => ?_
          obtain ⟨s, Lb, p, pd, rfl, rfl, hll, hpl, Sb, hno⟩ := q8
          have z8 := K8.1
          show Go x (T8.setTop (mkF x.m 129 #[.val (.int p0), .val (.int p1), .val (.int p2), .val (.int p3), .val (.int p4), .val (.int (Int32.ofNat sa)), .val (.int (Int32.ofNat sc)), .val (.int (Int32.ofNat sd)), .val (.int bt), .val (.int ((XT.ushr p4 (1 : Int32)) &&& (3 : Int32))), .val (.int (Int32.ofNat q)), .val (.ref b), .unset] [(.ref s)]))
          refine g_pop X8 d23_129 rfl ?_
          exact rest3 t2x Lb [] pd p nbt2 zlt2 ntu2 (by omega) (by simp [hpl]) (fun z => ⟨fun g => absurd g (hno z), fun g => absurd g.1 eb0⟩) T8 h8 X8 Sb
    by_cases h0s : ((XT.ushr p4 (1 : Int32)) &&& (3 : Int32)) = 0
    ·
      refine g_ifF X0 d23_45 (XT.i0_ne_f h0s) ?_
      refine g_iloadN X0 d23_48 rfl ?_
      obtain ⟨q, hq, eq⟩ := k_and31 p3
      refine g_ldcI X0 d23_49 (w0 hw) ?_
      refine g_iand X0 (Int32.ofNat q) d23_51 eq ?_
      refine g_istore X0 #[.val (.int p0), .val (.int p1), .val (.int p2), .val (.int p3), .val (.int p4), .val (.int (Int32.ofNat sa)), .val (.int (Int32.ofNat sc)), .val (.int (Int32.ofNat sd)), .val (.int bt), .val (.int ((XT.ushr p4 (1 : Int32)) &&& (3 : Int32))), .val (.int (Int32.ofNat q)), .unset, .unset] d23_52 rfl ?_
      refine g_goto X0 d23_54 ?_
      exact rest2 q hq
    ·
      refine g_ifT X0 d23_45 (XT.i0_ne_t h0s) ?_
      refine g_iload X0 d23_57 rfl ?_
      refine g_iconst X0 (1 : Int32) d23_59 (by decide) ?_
      by_cases h1s : ((XT.ushr p4 (1 : Int32)) &&& (3 : Int32)) = (1 : Int32)
      ·
        refine g_icmpF X0 d23_60 (XT.ii_ne_f h1s) ?_
        obtain ⟨q, hq, eq⟩ := k_and13 p3
        refine g_iloadN X0 d23_63 rfl ?_
        refine g_sipush X0 (8191 : Int32) d23_64 (by decide) ?_
        refine g_iand X0 (Int32.ofNat q) d23_67 eq ?_
        refine g_istore X0 #[.val (.int p0), .val (.int p1), .val (.int p2), .val (.int p3), .val (.int p4), .val (.int (Int32.ofNat sa)), .val (.int (Int32.ofNat sc)), .val (.int (Int32.ofNat sd)), .val (.int bt), .val (.int ((XT.ushr p4 (1 : Int32)) &&& (3 : Int32))), .val (.int (Int32.ofNat q)), .unset, .unset] d23_68 rfl ?_
        refine g_goto X0 d23_70 ?_
        exact rest2 q (by omega)
      ·
        refine g_icmpT X0 d23_60 (XT.ii_ne_t h1s) ?_
        refine g_iload X0 d23_73 rfl ?_
        refine g_iconst X0 (2 : Int32) d23_75 (by decide) ?_
        by_cases h2s : ((XT.ushr p4 (1 : Int32)) &&& (3 : Int32)) = (2 : Int32)
        ·
          refine g_icmpF X0 d23_76 (XT.ii_ne_f h2s) ?_
          obtain ⟨q, hq, eq⟩ := k_xor1 hsa p3
          refine g_iload X0 d23_79 rfl ?_
          refine g_iloadN X0 d23_81 rfl ?_
          refine g_iconst X0 (1 : Int32) d23_82 (by decide) ?_
          refine g_iand X0 (p3 &&& (1 : Int32)) d23_83 rfl ?_
          refine g_ixor X0 (Int32.ofNat q) d23_84 eq ?_
          refine g_istore X0 #[.val (.int p0), .val (.int p1), .val (.int p2), .val (.int p3), .val (.int p4), .val (.int (Int32.ofNat sa)), .val (.int (Int32.ofNat sc)), .val (.int (Int32.ofNat sd)), .val (.int bt), .val (.int ((XT.ushr p4 (1 : Int32)) &&& (3 : Int32))), .val (.int (Int32.ofNat q)), .unset, .unset] d23_85 rfl ?_
          refine g_goto X0 d23_87 ?_
          exact rest2 q hq
        ·
          refine g_icmpT X0 d23_76 (XT.ii_ne_t h2s) ?_
          refine g_iload X0 d23_90 rfl ?_
          refine g_istore X0 #[.val (.int p0), .val (.int p1), .val (.int p2), .val (.int p3), .val (.int p4), .val (.int (Int32.ofNat sa)), .val (.int (Int32.ofNat sc)), .val (.int (Int32.ofNat sd)), .val (.int bt), .val (.int ((XT.ushr p4 (1 : Int32)) &&& (3 : Int32))), .val (.int (Int32.ofNat sd)), .unset, .unset] d23_92 rfl ?_
          exact rest2 sd (by omega)
  by_cases hm : (p4 &&& (1 : Int32)) = 0
  ·
    refine g_ifT X0 d23_25 (XT.i0_eq_t hm) ?_
    refine g_iconst X0 (0 : Int32) d23_32 (by decide) ?_
    refine g_istore X0 #[.val (.int p0), .val (.int p1), .val (.int p2), .val (.int p3), .val (.int p4), .val (.int (Int32.ofNat sa)), .val (.int (Int32.ofNat sc)), .val (.int (Int32.ofNat sd)), .val (.int (0 : Int32)), .unset, .unset, .unset, .unset] d23_33 rfl ?_
    exact rest 0 (Or.inl rfl)
  ·
    refine g_ifF X0 d23_25 (XT.i0_eq_f hm) ?_
    refine g_iconst X0 (1 : Int32) d23_28 (by decide) ?_
    refine g_goto X0 d23_29 ?_
    refine g_istore X0 #[.val (.int p0), .val (.int p1), .val (.int p2), .val (.int p3), .val (.int p4), .val (.int (Int32.ofNat sa)), .val (.int (Int32.ofNat sc)), .val (.int (Int32.ofNat sd)), .val (.int (1 : Int32)), .unset, .unset, .unset, .unset] d23_33 rfl ?_
    exact rest 1 (Or.inr rfl)
set_option maxRecDepth 65536 in
theorem comes_1 {Post : Tables → Env → Array Value → State → Outcome → State → Prop} (hpost : ∀ tb e args s v u, (limb_1_1.after args s (.returned v) u = true ∧ limb_1_2.after args s (.returned v) u = true ∧ True) → Framed s (.returned v) u (Jvm.fieldLocs frame_1_writes args s ++ Jvm.arrayLocs frame_1_arrays args s ++ Jvm.staticLocs frame_1_statics s) 32 512 → Post tb e args s (.returned v) u) :
    ArmFor flags0 classFile x code maxLocals ret World_1 tables_1 room_1 Calls_1 rest_1 Pre_1 Post := by
  intro l hfl _ _ p e ha hc hk s m args below hf hA hF happ hP
  obtain ⟨hcalls, hrest, hpre⟩ := hP
  obtain ⟨-, -, -, hnamed, -, -, -, hat⟩ := (Spec.applies_iff hf).mp happ
  obtain ⟨hg, hn⟩ := and_e (Cond.before_iff.mp (show (Jvm.Cond.and given_1 narrow_1).before args s = true from hpre))
  obtain ⟨h1, hg⟩ := and_e hg
  obtain ⟨g0, hg⟩ := and_e hg
  obtain ⟨g1, hg⟩ := and_e hg
  obtain ⟨g2, hg⟩ := and_e hg
  obtain ⟨g3, hg⟩ := and_e hg
  have g4 := hg
  obtain ⟨w0, w1, w2, w3, w4, rfl⟩ : ∃ w0 w1 w2 w3 w4 : Value, args = #[w0, w1, w2, w3, w4] := by
    have hs : args.size = 5 := by simpa [Cond.value, given_1] using h1
    obtain ⟨L⟩ := args
    match L, hs with
    | [w0, w1, w2, w3, w4], _ => exact ⟨w0, w1, w2, w3, w4, rfl⟩
  have hw := fun d (hd : d ∈ tables_1) => atoms_spec (ws := Jvm.Cond.code x code maxLocals ret :: tables_1) hat d (List.mem_cons_of_mem _ hd)
  obtain ⟨p0, e0⟩ := is_v g0
  obtain rfl : w0 = (.int p0) := Option.some.inj e0
  obtain ⟨p1, e1⟩ := is_v g1
  obtain rfl : w1 = (.int p1) := Option.some.inj e1
  obtain ⟨p2, e2⟩ := is_v g2
  obtain rfl : w2 = (.int p2) := Option.some.inj e2
  obtain ⟨p3, e3⟩ := is_v g3
  obtain rfl : w3 = (.int p3) := Option.some.inj e3
  obtain ⟨p4, e4⟩ := is_v g4
  obtain rfl : w4 = (.int p4) := Option.some.inj e4
  have hS : Sts s := trivial
  have hI : k_inv s [] (fun _ => False) s.vm s.heap := ⟨(fun p hp => nomatch hp), fun y b => by obtain ⟨p, hp, -⟩ := b; exact (nomatch hp), fun y b => b.elim, ⟨Nat.le_refl _, fun _ _ q => q⟩, #[], EW.nil⟩
  obtain ⟨n, o, h1, h2, h3, v, L, B', rfl, rfl, -, -, N, -, hq⟩ := c_law (l := l) hw hS (B0 := (fun _ => False)) p0 p1 p2 p3 p4 (Nat.le_refl _) p e ha hc hk s m _ below hf ((Spec.applies_iff_loose hf).mp happ).1 ⟨rfl, State.Warmed39.refl s, rfl, hI⟩ trivial
  obtain ⟨⟨q1, -, -, q4⟩, q5⟩ := hq
  refine ⟨n, _, h1, h2, h3, hpost _ _ _ _ _ _ ⟨Cond.after_iff.mpr rfl, Cond.after_iff.mpr (eq_i res_at (Term.int_eval (1)) rfl), trivial⟩ ⟨q1, q5 rfl, (q4.sift fun y hy => Or.inr (N y hy)).mono (by decide) (by decide)⟩⟩
theorem main_1_1 : Claimed_1_1 := comes_1 fun _ _ _ _ _ _ h hF => ⟨h.1, hF⟩
theorem main_1_2 : Claimed_1_2 := comes_1 fun _ _ _ _ _ _ h hF => ⟨h.2.1, hF⟩
end Jvm.Pilot.@@N@@
namespace Jvm.Pilot.@@N@@
open Jvm Jvm.ClassFile Sem Op Lib Jvm.Free Jvm.Stand Jvm.Pilot.@@N@@.Jvm.D
/-! MADE BY PROGRAM (witnessworld.py) out of the Statement's table words and the real class files: 18 classes; the members and pool entries that the words name. The judged class is class 1, her method 1. -/
namespace start1
open Jvm.ClassFile
def u (s : String) : CpInfo := .utf8 (stringToUtf16 s)
/-- a pool by its gaps: so many unusable entries, then the entry; so many at the end -/
def gap : Nat → List CpInfo → List CpInfo
  | 0, r => r
  | n + 1, r => .unusable :: gap n r
def poolList (es : List (Nat × CpInfo)) (last : Nat) : List CpInfo := es.foldr (fun e r => gap e.1 (e.2 :: r)) (gap last [])
def pool (es : List (Nat × CpInfo)) (last : Nat) : Array CpInfo := ⟨poolList es last⟩
def fileOf (pool : Array CpInfo) (this : Nat) (attrs : Array Attribute := #[]) (ms : Array MethodInfo := #[]) (fl : Nat := 33) (sup : Nat := 0) (ifs : Array Nat := #[]) (fds : Array FieldInfo := #[]) : ClassFile where
  minorVersion := 0
  majorVersion := 65
  constantPool := pool
  accessFlags := fl
  thisClass := this
  superClass := sup
  interfaces := ifs
  fields := fds
  methods := ms
  attributes := attrs
def plain (name : String) (sup : Option ClassId) : Class where
  name := name
  kind := .ordinary
  loader := none
  accessFlags := 33
  super := sup
  interfaces := #[]
  cf := none
  fields := #[]
  methods := #[]
  instanceTypes := #[]
  staticTypes := #[]
  resolved := #[]
  callSites := []
  init := .initialized
  statics := none
  mirror := none

def pool0 : Array CpInfo := pool [(5, u "<init>"), (0, u "()V"), (1, .class_ 10), (1, u "java/lang/Object")] 113

def k0c0 : Code := { maxStack := 0, maxLocals := 1, code := object_method_1_code, exceptionTable := #[], attributes := #[] }
def k0m0 : Method := { name := "<init>", desc := "()V", sig := { parameters := [], returnType := none }, accessFlags := 1, code := some k0c0 }
/-- java/lang/Object -/
def k0 : Class := { plain "java/lang/Object" none with
  accessFlags := 33
  interfaces := #[]
  cf := some (fileOf pool0 8 #[] #[{ accessFlags := 1, nameIndex := 5, descriptorIndex := 6, attributes := #[] }] 33 0 #[] #[])
  fields := #[]
  methods := #[k0m0]
  instanceTypes := #[]
  staticTypes := #[]
  resolved := Array.replicate 124 none
  statics := none }

def pool1 : Array CpInfo := pool [(2, .class_ 4), (0, .nameAndType 5 6), (0, u "java/lang/Object"), (0, u "<init>"), (0, u "()V"), (0, .integer 2147483647), (0, .class_ 9), (0, u "com/example/verichor/verichor/explore/StateSet$Builder"), (0, .methodref 8 3), (0, .methodref 8 12), (0, .nameAndType 13 14), (0, u "add"), (0, u "(I)Z"), (0, .methodref 8 16), (0, .nameAndType 17 18), (0, u "build"), (0, u "()Lcom/example/verichor/verichor/explore/StateSet;"), (0, .methodref 8 20), (0, .nameAndType 21 14), (0, u "contains"), (0, .class_ 23), (0, u "com/example/verichor/verichor/explore/BuilderContainsPinLaw"), (2, u "law"), (0, u "(IIIII)Z")] 7

def k1m0 : Method := { name := "<init>", desc := "()V", sig := { parameters := [], returnType := none }, accessFlags := 1, code := none }
def k1c1 : Code := { maxStack := 3, maxLocals := 13, code := code, exceptionTable := #[], attributes := #[] }
def k1m1 : Method := { name := "law", desc := "(IIIII)Z", sig := { parameters := [.int, .int, .int, .int, .int], returnType := some .boolean }, accessFlags := 9, code := some k1c1 }
/-- com/example/verichor/verichor/explore/BuilderContainsPinLaw -/
def k1 : Class := { plain "com/example/verichor/verichor/explore/BuilderContainsPinLaw" (some 0) with
  accessFlags := 49
  interfaces := #[]
  cf := some (fileOf pool1 22 #[] #[{ accessFlags := 1, nameIndex := 5, descriptorIndex := 6, attributes := #[] }, { accessFlags := 9, nameIndex := 26, descriptorIndex := 27, attributes := #[] }] 49 2 #[] #[])
  fields := #[]
  methods := #[k1m0, k1m1]
  instanceTypes := #[]
  staticTypes := #[]
  resolved := Array.replicate 35 none
  statics := none }

def pool2 : Array CpInfo := pool [(1, .methodref 2 3), (0, .class_ 4), (0, .nameAndType 5 6), (0, u "java/lang/Object"), (0, u "<init>"), (0, u "()V"), (0, .fieldref 8 9), (0, .class_ 10), (0, .nameAndType 11 12), (0, u "com/example/verichor/verichor/explore/StateSet$Builder"), (0, u "added"), (0, u "[J"), (0, .class_ 14), (0, u "com/example/verichor/verichor/composition/Ints"), (0, .methodref 13 3), (0, .fieldref 8 17), (0, .nameAndType 18 19), (0, u "members"), (0, u "Lcom/example/verichor/verichor/composition/Ints;"), (2, .methodref 8 23), (0, .nameAndType 24 25), (0, u "contains"), (0, u "(I)Z"), (0, .methodref 27 28), (0, .class_ 29), (0, .nameAndType 30 31), (0, u "java/lang/Math"), (0, u "max"), (0, u "(II)I"), (0, .methodref 33 34), (0, .class_ 35), (0, .nameAndType 36 37), (0, u "java/util/Arrays"), (0, u "copyOf"), (0, u "([JI)[J"), (0, .methodref 13 39), (0, .nameAndType 40 41), (0, u "add"), (0, u "(I)V"), (0, .methodref 13 43), (0, .nameAndType 44 6), (0, u "sort"), (0, .methodref 13 46), (0, .nameAndType 47 48), (0, u "toArray"), (0, u "()[I"), (0, .methodref 13 50), (0, .nameAndType 51 6), (0, u "clear"), (0, .class_ 53), (0, u "com/example/verichor/verichor/explore/StateSet"), (0, .methodref 52 55), (0, .nameAndType 5 56), (0, u "([I)V"), (3, u "build"), (0, u "()Lcom/example/verichor/verichor/explore/StateSet;")] 7

def k2c0 : Code := { maxStack := 3, maxLocals := 1, code := prog_218_method_1_code, exceptionTable := #[], attributes := #[] }
def k2m0 : Method := { name := "<init>", desc := "()V", sig := { parameters := [], returnType := none }, accessFlags := 0, code := some k2c0 }
def k2c1 : Code := { maxStack := 6, maxLocals := 3, code := prog_218_method_2_code, exceptionTable := #[], attributes := #[] }
def k2m1 : Method := { name := "contains", desc := "(I)Z", sig := { parameters := [.int], returnType := some .boolean }, accessFlags := 0, code := some k2c1 }
def k2c2 : Code := { maxStack := 8, maxLocals := 3, code := prog_218_method_3_code, exceptionTable := #[], attributes := #[] }
def k2m2 : Method := { name := "add", desc := "(I)Z", sig := { parameters := [.int], returnType := some .boolean }, accessFlags := 0, code := some k2c2 }
def k2c3 : Code := { maxStack := 4, maxLocals := 6, code := prog_218_method_4_code, exceptionTable := #[], attributes := #[] }
def k2m3 : Method := { name := "build", desc := "()Lcom/example/verichor/verichor/explore/StateSet;", sig := { parameters := [], returnType := some (.object "com/example/verichor/verichor/explore/StateSet") }, accessFlags := 0, code := some k2c3 }
/-- com/example/verichor/verichor/explore/StateSet$Builder -/
def k2 : Class := { plain "com/example/verichor/verichor/explore/StateSet$Builder" (some 0) with
  accessFlags := 48
  interfaces := #[]
  cf := some (fileOf pool2 8 #[.nestHost 52] #[{ accessFlags := 0, nameIndex := 5, descriptorIndex := 6, attributes := #[] }, { accessFlags := 0, nameIndex := 24, descriptorIndex := 25, attributes := #[] }, { accessFlags := 0, nameIndex := 40, descriptorIndex := 25, attributes := #[] }, { accessFlags := 0, nameIndex := 60, descriptorIndex := 61, attributes := #[] }] 48 2 #[] #[{ accessFlags := 2, nameIndex := 11, descriptorIndex := 12, attributes := #[] }, { accessFlags := 18, nameIndex := 18, descriptorIndex := 19, attributes := #[] }])
  fields := #[{ name := "added", type := (.array .long), accessFlags := 2, slot := 0, constantValue := 0 }, { name := "members", type := (.object "com/example/verichor/verichor/composition/Ints"), accessFlags := 18, slot := 1, constantValue := 0 }]
  methods := #[k2m0, k2m1, k2m2, k2m3]
  instanceTypes := #[(.array .long), (.object "com/example/verichor/verichor/composition/Ints")]
  staticTypes := #[]
  resolved := Array.replicate 69 none
  statics := none }

def pool3 : Array CpInfo := pool [(1, .methodref 2 3), (0, .class_ 4), (0, .nameAndType 5 6), (0, u "java/lang/Object"), (0, u "<init>"), (0, u "()V"), (0, .fieldref 8 9), (0, .class_ 10), (0, .nameAndType 11 12), (0, u "com/example/verichor/verichor/composition/Ints"), (0, u "values"), (0, u "[I"), (0, .fieldref 8 14), (0, .nameAndType 15 16), (0, u "size"), (0, u "I"), (0, .methodref 18 19), (0, .class_ 20), (0, .nameAndType 21 22), (0, u "java/util/Arrays"), (0, u "copyOf"), (0, u "([II)[I"), (0, .methodref 18 24), (0, .nameAndType 25 26), (0, u "sort"), (0, u "([III)V"), (2, u "add"), (0, u "(I)V"), (6, u "clear"), (0, u "toArray"), (0, u "()[I")] 2

def k3c0 : Code := { maxStack := 2, maxLocals := 1, code := prog_72_method_1_code, exceptionTable := #[], attributes := #[] }
def k3m0 : Method := { name := "<init>", desc := "()V", sig := { parameters := [], returnType := none }, accessFlags := 1, code := some k3c0 }
def k3c1 : Code := { maxStack := 5, maxLocals := 2, code := prog_72_method_2_code, exceptionTable := #[], attributes := #[] }
def k3m1 : Method := { name := "add", desc := "(I)V", sig := { parameters := [.int], returnType := none }, accessFlags := 1, code := some k3c1 }
def k3c2 : Code := { maxStack := 2, maxLocals := 1, code := prog_72_method_6_code, exceptionTable := #[], attributes := #[] }
def k3m2 : Method := { name := "clear", desc := "()V", sig := { parameters := [], returnType := none }, accessFlags := 1, code := some k3c2 }
def k3c3 : Code := { maxStack := 3, maxLocals := 1, code := prog_72_method_7_code, exceptionTable := #[], attributes := #[] }
def k3m3 : Method := { name := "sort", desc := "()V", sig := { parameters := [], returnType := none }, accessFlags := 1, code := some k3c3 }
def k3c4 : Code := { maxStack := 2, maxLocals := 1, code := prog_72_method_8_code, exceptionTable := #[], attributes := #[] }
def k3m4 : Method := { name := "toArray", desc := "()[I", sig := { parameters := [], returnType := some (.array .int) }, accessFlags := 1, code := some k3c4 }
/-- com/example/verichor/verichor/composition/Ints -/
def k3 : Class := { plain "com/example/verichor/verichor/composition/Ints" (some 0) with
  accessFlags := 49
  interfaces := #[]
  cf := some (fileOf pool3 8 #[] #[{ accessFlags := 1, nameIndex := 5, descriptorIndex := 6, attributes := #[] }, { accessFlags := 1, nameIndex := 29, descriptorIndex := 30, attributes := #[] }, { accessFlags := 1, nameIndex := 37, descriptorIndex := 6, attributes := #[] }, { accessFlags := 1, nameIndex := 25, descriptorIndex := 6, attributes := #[] }, { accessFlags := 1, nameIndex := 38, descriptorIndex := 39, attributes := #[] }] 49 2 #[] #[{ accessFlags := 2, nameIndex := 11, descriptorIndex := 12, attributes := #[] }, { accessFlags := 2, nameIndex := 15, descriptorIndex := 16, attributes := #[] }])
  fields := #[{ name := "values", type := (.array .int), accessFlags := 2, slot := 0, constantValue := 0 }, { name := "size", type := .int, accessFlags := 2, slot := 1, constantValue := 0 }]
  methods := #[k3m0, k3m1, k3m2, k3m3, k3m4]
  instanceTypes := #[(.array .int), .int]
  staticTypes := #[]
  resolved := Array.replicate 42 none
  statics := none }

def pool4 : Array CpInfo := pool [(2, .class_ 4), (1, u "java/lang/Object"), (0, u "<init>"), (0, u "()V"), (0, .methodref 8 9), (0, .class_ 10), (0, .nameAndType 11 12), (0, u "java/util/DualPivotQuicksort"), (0, u "sort"), (0, u "([IIII)V"), (0, .methodref 14 15), (0, .class_ 16), (0, .nameAndType 17 18), (0, u "java/util/Arrays"), (0, u "rangeCheck"), (0, u "(III)V"), (55, .class_ 76), (1, u "java/util/Arrays$NaturalOrder"), (36, .class_ 115), (1, u "java/util/Arrays$LegacyMergeSort"), (1, u "Z"), (32, .methodref 151 152), (0, .class_ 153), (0, .nameAndType 154 155), (0, u "java/lang/System"), (0, u "arraycopy"), (0, u "(Ljava/lang/Object;ILjava/lang/Object;II)V"), (90, .class_ 248), (1, u "jdk/internal/util/ArraysSupport"), (53, u "copyOf"), (1, .methodref 305 306), (0, .class_ 307), (0, .nameAndType 308 309), (0, u "java/lang/Math"), (0, u "min"), (0, u "(II)I"), (65, .class_ 376), (0, u "java/util/Arrays$ArrayList"), (2, .methodref 246 380), (0, .nameAndType 381 382), (0, u "vectorizedHashCode"), (0, u "(Ljava/lang/Object;IIII)I"), (2, u "hashCode"), (22, u "([I)I"), (5, u "([J)I"), (30, u "$assertionsDisabled"), (269, u "MIN_ARRAY_SORT_GRAN"), (0, u "I"), (2, u "INSERTIONSORT_THRESHOLD"), (8, u "([III)V"), (142, u "([II)[I"), (0, u "([JI)[J"), (102, .class_ 976), (0, u "java/util/Arrays$ArrayItr")] 52

def k4m0 : Method := { name := "<init>", desc := "()V", sig := { parameters := [], returnType := none }, accessFlags := 2, code := none }
def k4c1 : Code := { maxStack := 4, maxLocals := 3, code := jdk_65_method_3_code, exceptionTable := #[], attributes := #[] }
def k4m1 : Method := { name := "sort", desc := "([III)V", sig := { parameters := [(.array .int), .int, .int], returnType := none }, accessFlags := 9, code := some k4c1 }
def k4c2 : Code := { maxStack := 4, maxLocals := 3, code := jdk_65_method_30_code, exceptionTable := #[], attributes := #[] }
def k4m2 : Method := { name := "rangeCheck", desc := "(III)V", sig := { parameters := [.int, .int, .int], returnType := none }, accessFlags := 8, code := some k4c2 }
def k4c3 : Code := { maxStack := 6, maxLocals := 3, code := jdk_65_method_123_code, exceptionTable := #[], attributes := #[] }
def k4m3 : Method := { name := "copyOf", desc := "([II)[I", sig := { parameters := [(.array .int), .int], returnType := some (.array .int) }, accessFlags := 9, code := some k4c3 }
def k4c4 : Code := { maxStack := 6, maxLocals := 3, code := jdk_65_method_124_code, exceptionTable := #[], attributes := #[] }
def k4m4 : Method := { name := "copyOf", desc := "([JI)[J", sig := { parameters := [(.array .long), .int], returnType := some (.array .long) }, accessFlags := 9, code := some k4c4 }
def k4c5 : Code := { maxStack := 5, maxLocals := 8, code := jdk_65_method_149_code, exceptionTable := #[], attributes := #[] }
def k4m5 : Method := { name := "hashCode", desc := "([J)I", sig := { parameters := [(.array .long)], returnType := some .int }, accessFlags := 9, code := some k4c5 }
def k4c6 : Code := { maxStack := 5, maxLocals := 1, code := jdk_65_method_150_code, exceptionTable := #[], attributes := #[] }
def k4m6 : Method := { name := "hashCode", desc := "([I)I", sig := { parameters := [(.array .int)], returnType := some .int }, accessFlags := 9, code := some k4c6 }
/-- java/util/Arrays -/
def k4 : Class := { plain "java/util/Arrays" (some 0) with
  accessFlags := 49
  interfaces := #[]
  cf := some (fileOf pool4 14 #[.nestMembers #[975, 375, 113, 74]] #[{ accessFlags := 2, nameIndex := 5, descriptorIndex := 6, attributes := #[] }, { accessFlags := 9, nameIndex := 11, descriptorIndex := 728, attributes := #[] }, { accessFlags := 8, nameIndex := 17, descriptorIndex := 18, attributes := #[] }, { accessFlags := 9, nameIndex := 302, descriptorIndex := 871, attributes := #[] }, { accessFlags := 9, nameIndex := 302, descriptorIndex := 872, attributes := #[] }, { accessFlags := 9, nameIndex := 385, descriptorIndex := 414, attributes := #[] }, { accessFlags := 9, nameIndex := 385, descriptorIndex := 408, attributes := #[] }] 49 2 #[] #[{ accessFlags := 26, nameIndex := 715, descriptorIndex := 716, attributes := #[] }, { accessFlags := 26, nameIndex := 719, descriptorIndex := 716, attributes := #[] }, { accessFlags := 4120, nameIndex := 445, descriptorIndex := 117, attributes := #[] }])
  fields := #[{ name := "MIN_ARRAY_SORT_GRAN", type := .int, accessFlags := 26, slot := 0, constantValue := 0 }, { name := "INSERTIONSORT_THRESHOLD", type := .int, accessFlags := 26, slot := 1, constantValue := 0 }, { name := "$assertionsDisabled", type := .boolean, accessFlags := 4120, slot := 2, constantValue := 0 }]
  methods := #[k4m0, k4m1, k4m2, k4m3, k4m4, k4m5, k4m6]
  instanceTypes := #[]
  staticTypes := #[.int, .int, .boolean]
  resolved := Array.replicate 1029 none
  statics := none }

def pool5 : Array CpInfo := pool [(1, .class_ 2), (0, u "java/util/DualPivotQuicksort"), (5, .class_ 10), (1, u "java/lang/Object"), (0, u "<init>"), (0, u "()V"), (4, .class_ 18), (0, u "java/util/DualPivotQuicksort$Sorter"), (7, .methodref 1 27), (0, .nameAndType 28 29), (0, u "sort"), (0, u "(Ljava/util/DualPivotQuicksort$Sorter;[IIII)V"), (3, u "([IIII)V"), (0, .methodref 1 35), (0, .nameAndType 36 37), (0, u "insertionSort"), (0, u "([III)V"), (30, u "I"), (4, .class_ 74), (0, u "java/util/DualPivotQuicksort$RunMerger"), (10, .class_ 86), (0, u "java/util/DualPivotQuicksort$Merger"), (127, u "MAX_MIXED_INSERTION_SORT_SIZE"), (2, u "MAX_INSERTION_SORT_SIZE"), (1, u "MIN_PARALLEL_SORT_SIZE"), (1, u "MIN_TRY_MERGE_SIZE"), (0, u "MIN_FIRST_RUN_SIZE"), (1, u "MIN_FIRST_RUNS_FACTOR"), (1, u "MAX_RUN_CAPACITY"), (1, u "MIN_RUN_COUNT"), (1, u "MIN_PARALLEL_MERGE_PARTS_SIZE"), (0, u "MIN_BYTE_COUNTING_SORT_SIZE"), (1, u "MIN_SHORT_OR_CHAR_COUNTING_SORT_SIZE"), (1, u "DELTA"), (1, u "MAX_RECURSION_DEPTH"), (1, u "NUM_BYTE_VALUES"), (1, u "MAX_BYTE_INDEX"), (0, u "NUM_CHAR_VALUES"), (0, u "NUM_SHORT_VALUES"), (0, u "MAX_SHORT_INDEX")] 86

def k5m0 : Method := { name := "<init>", desc := "()V", sig := { parameters := [], returnType := none }, accessFlags := 2, code := none }
def k5c1 : Code := { maxStack := 9, maxLocals := 7, code := jdk_2529_method_3_code, exceptionTable := #[], attributes := #[] }
def k5m1 : Method := { name := "sort", desc := "([IIII)V", sig := { parameters := [(.array .int), .int, .int, .int], returnType := none }, accessFlags := 8, code := some k5c1 }
def k5c2 : Code := { maxStack := 6, maxLocals := 21, code := jdk_2529_method_4_code, exceptionTable := #[], attributes := #[] }
def k5m2 : Method := { name := "sort", desc := "(Ljava/util/DualPivotQuicksort$Sorter;[IIII)V", sig := { parameters := [(.object "java/util/DualPivotQuicksort$Sorter"), (.array .int), .int, .int, .int], returnType := none }, accessFlags := 8, code := some k5c2 }
def k5c3 : Code := { maxStack := 4, maxLocals := 6, code := jdk_2529_method_6_code, exceptionTable := #[], attributes := #[] }
def k5m3 : Method := { name := "insertionSort", desc := "([III)V", sig := { parameters := [(.array .int), .int, .int], returnType := none }, accessFlags := 10, code := some k5c3 }
/-- java/util/DualPivotQuicksort -/
def k5 : Class := { plain "java/util/DualPivotQuicksort" (some 0) with
  accessFlags := 48
  interfaces := #[]
  cf := some (fileOf pool5 1 #[.nestMembers #[73, 85, 17]] #[{ accessFlags := 2, nameIndex := 11, descriptorIndex := 12, attributes := #[] }, { accessFlags := 8, nameIndex := 28, descriptorIndex := 33, attributes := #[] }, { accessFlags := 8, nameIndex := 28, descriptorIndex := 29, attributes := #[] }, { accessFlags := 10, nameIndex := 36, descriptorIndex := 37, attributes := #[] }] 48 8 #[] #[{ accessFlags := 26, nameIndex := 214, descriptorIndex := 68, attributes := #[] }, { accessFlags := 26, nameIndex := 217, descriptorIndex := 68, attributes := #[] }, { accessFlags := 26, nameIndex := 219, descriptorIndex := 68, attributes := #[] }, { accessFlags := 26, nameIndex := 221, descriptorIndex := 68, attributes := #[] }, { accessFlags := 26, nameIndex := 222, descriptorIndex := 68, attributes := #[] }, { accessFlags := 26, nameIndex := 224, descriptorIndex := 68, attributes := #[] }, { accessFlags := 26, nameIndex := 226, descriptorIndex := 68, attributes := #[] }, { accessFlags := 26, nameIndex := 228, descriptorIndex := 68, attributes := #[] }, { accessFlags := 26, nameIndex := 230, descriptorIndex := 68, attributes := #[] }, { accessFlags := 26, nameIndex := 231, descriptorIndex := 68, attributes := #[] }, { accessFlags := 26, nameIndex := 233, descriptorIndex := 68, attributes := #[] }, { accessFlags := 26, nameIndex := 235, descriptorIndex := 68, attributes := #[] }, { accessFlags := 26, nameIndex := 237, descriptorIndex := 68, attributes := #[] }, { accessFlags := 26, nameIndex := 239, descriptorIndex := 68, attributes := #[] }, { accessFlags := 26, nameIndex := 241, descriptorIndex := 68, attributes := #[] }, { accessFlags := 26, nameIndex := 242, descriptorIndex := 68, attributes := #[] }, { accessFlags := 26, nameIndex := 243, descriptorIndex := 68, attributes := #[] }, { accessFlags := 26, nameIndex := 244, descriptorIndex := 68, attributes := #[] }])
  fields := #[{ name := "MAX_MIXED_INSERTION_SORT_SIZE", type := .int, accessFlags := 26, slot := 0, constantValue := 0 }, { name := "MAX_INSERTION_SORT_SIZE", type := .int, accessFlags := 26, slot := 1, constantValue := 0 }, { name := "MIN_PARALLEL_SORT_SIZE", type := .int, accessFlags := 26, slot := 2, constantValue := 0 }, { name := "MIN_TRY_MERGE_SIZE", type := .int, accessFlags := 26, slot := 3, constantValue := 0 }, { name := "MIN_FIRST_RUN_SIZE", type := .int, accessFlags := 26, slot := 4, constantValue := 0 }, { name := "MIN_FIRST_RUNS_FACTOR", type := .int, accessFlags := 26, slot := 5, constantValue := 0 }, { name := "MAX_RUN_CAPACITY", type := .int, accessFlags := 26, slot := 6, constantValue := 0 }, { name := "MIN_RUN_COUNT", type := .int, accessFlags := 26, slot := 7, constantValue := 0 }, { name := "MIN_PARALLEL_MERGE_PARTS_SIZE", type := .int, accessFlags := 26, slot := 8, constantValue := 0 }, { name := "MIN_BYTE_COUNTING_SORT_SIZE", type := .int, accessFlags := 26, slot := 9, constantValue := 0 }, { name := "MIN_SHORT_OR_CHAR_COUNTING_SORT_SIZE", type := .int, accessFlags := 26, slot := 10, constantValue := 0 }, { name := "DELTA", type := .int, accessFlags := 26, slot := 11, constantValue := 0 }, { name := "MAX_RECURSION_DEPTH", type := .int, accessFlags := 26, slot := 12, constantValue := 0 }, { name := "NUM_BYTE_VALUES", type := .int, accessFlags := 26, slot := 13, constantValue := 0 }, { name := "MAX_BYTE_INDEX", type := .int, accessFlags := 26, slot := 14, constantValue := 0 }, { name := "NUM_CHAR_VALUES", type := .int, accessFlags := 26, slot := 15, constantValue := 0 }, { name := "NUM_SHORT_VALUES", type := .int, accessFlags := 26, slot := 16, constantValue := 0 }, { name := "MAX_SHORT_INDEX", type := .int, accessFlags := 26, slot := 17, constantValue := 0 }]
  methods := #[k5m0, k5m1, k5m2, k5m3]
  instanceTypes := #[]
  staticTypes := #[.int, .int, .int, .int, .int, .int, .int, .int, .int, .int, .int, .int, .int, .int, .int, .int, .int, .int]
  resolved := Array.replicate 331 none
  statics := none }

def pool6 : Array CpInfo := pool [(1, .class_ 2), (0, u "java/lang/Math"), (1, .class_ 6), (1, u "java/lang/Object"), (0, u "<init>"), (0, u "()V"), (89, .class_ 100), (1, u "java/lang/Math$RandomNumberGeneratorHolder"), (71, u "negativeZeroFloatBits"), (0, u "J"), (2, u "negativeZeroDoubleBits"), (21, u "max"), (2, u "min"), (43, u "$assertionsDisabled"), (0, u "Z"), (88, u "(II)I"), (2, u "twoToTheDoubleScaleDown"), (0, u "D"), (4, u "twoToTheDoubleScaleUp"), (9, u "E"), (3, u "PI"), (2, u "TAU"), (2, u "DEGREES_TO_RADIANS"), (0, u "RADIANS_TO_DEGREES")] 94

def k6m0 : Method := { name := "<init>", desc := "()V", sig := { parameters := [], returnType := none }, accessFlags := 2, code := none }
def k6c1 : Code := { maxStack := 2, maxLocals := 2, code := jdk_29_method_65_code, exceptionTable := #[], attributes := #[] }
def k6m1 : Method := { name := "max", desc := "(II)I", sig := { parameters := [.int, .int], returnType := some .int }, accessFlags := 9, code := some k6c1 }
def k6c2 : Code := { maxStack := 2, maxLocals := 2, code := jdk_29_method_69_code, exceptionTable := #[], attributes := #[] }
def k6m2 : Method := { name := "min", desc := "(II)I", sig := { parameters := [.int, .int], returnType := some .int }, accessFlags := 9, code := some k6c2 }
/-- java/lang/Math -/
def k6 : Class := { plain "java/lang/Math" (some 0) with
  accessFlags := 49
  interfaces := #[]
  cf := some (fileOf pool6 1 #[.nestMembers #[98]] #[{ accessFlags := 2, nameIndex := 7, descriptorIndex := 8, attributes := #[] }, { accessFlags := 9, nameIndex := 198, descriptorIndex := 335, attributes := #[] }, { accessFlags := 9, nameIndex := 201, descriptorIndex := 335, attributes := #[] }] 49 4 #[] #[{ accessFlags := 25, nameIndex := 354, descriptorIndex := 339, attributes := #[] }, { accessFlags := 25, nameIndex := 358, descriptorIndex := 339, attributes := #[] }, { accessFlags := 25, nameIndex := 361, descriptorIndex := 339, attributes := #[] }, { accessFlags := 26, nameIndex := 364, descriptorIndex := 339, attributes := #[] }, { accessFlags := 26, nameIndex := 365, descriptorIndex := 339, attributes := #[] }, { accessFlags := 26, nameIndex := 172, descriptorIndex := 173, attributes := #[] }, { accessFlags := 26, nameIndex := 176, descriptorIndex := 173, attributes := #[] }, { accessFlags := 8, nameIndex := 344, descriptorIndex := 339, attributes := #[] }, { accessFlags := 8, nameIndex := 338, descriptorIndex := 339, attributes := #[] }, { accessFlags := 4120, nameIndex := 245, descriptorIndex := 246, attributes := #[] }])
  fields := #[{ name := "E", type := .double, accessFlags := 25, slot := 0, constantValue := 0 }, { name := "PI", type := .double, accessFlags := 25, slot := 1, constantValue := 0 }, { name := "TAU", type := .double, accessFlags := 25, slot := 2, constantValue := 0 }, { name := "DEGREES_TO_RADIANS", type := .double, accessFlags := 26, slot := 3, constantValue := 0 }, { name := "RADIANS_TO_DEGREES", type := .double, accessFlags := 26, slot := 4, constantValue := 0 }, { name := "negativeZeroFloatBits", type := .long, accessFlags := 26, slot := 5, constantValue := 0 }, { name := "negativeZeroDoubleBits", type := .long, accessFlags := 26, slot := 6, constantValue := 0 }, { name := "twoToTheDoubleScaleUp", type := .double, accessFlags := 8, slot := 7, constantValue := 0 }, { name := "twoToTheDoubleScaleDown", type := .double, accessFlags := 8, slot := 8, constantValue := 0 }, { name := "$assertionsDisabled", type := .boolean, accessFlags := 4120, slot := 9, constantValue := 0 }]
  methods := #[k6m0, k6m1, k6m2]
  instanceTypes := #[]
  staticTypes := #[.double, .double, .double, .double, .double, .long, .long, .double, .double, .boolean]
  resolved := Array.replicate 460 none
  statics := none }

def pool7 : Array CpInfo := pool [(2, .class_ 4), (1, u "java/lang/Object"), (0, u "<init>"), (0, u "()V"), (1, .class_ 10), (1, u "java/lang/System"), (0, u "allowSecurityManager"), (0, u "I"), (16, u "cons"), (0, u "Ljava/io/Console;"), (77, .class_ 110), (1, u "java/lang/System$CallersHolder"), (43, u "initialErrStream"), (0, u "Ljava/io/PrintStream;"), (19, u "security"), (0, u "Ljava/lang/SecurityManager;"), (31, .class_ 209), (0, u "java/lang/System$1"), (7, u "props"), (0, u "Ljava/util/Properties;"), (2, u "lineSeparator"), (0, u "Ljava/lang/String;"), (96, .class_ 321), (1, u "java/lang/System$LoggerFinder"), (5, .class_ 328), (0, u "java/lang/System$Logger"), (67, u "err"), (2, u "out"), (91, u "notSupportedJnuEncoding"), (15, u "in"), (17, u "initialIn"), (0, u "Ljava/io/InputStream;"), (35, u "bootLayer"), (0, u "Ljava/lang/ModuleLayer;"), (99, .class_ 664), (0, u "java/lang/System$2"), (9, u "NEVER"), (2, u "MAYBE"), (49, u "arraycopy"), (0, u "(Ljava/lang/Object;ILjava/lang/Object;II)V"), (72, .class_ 802), (0, u "java/lang/System$Logger$Level")] 31

def k7m0 : Method := { name := "<init>", desc := "()V", sig := { parameters := [], returnType := none }, accessFlags := 2, code := none }
def k7m1 : Method := { name := "arraycopy", desc := "(Ljava/lang/Object;ILjava/lang/Object;II)V", sig := { parameters := [(.object "java/lang/Object"), .int, (.object "java/lang/Object"), .int, .int], returnType := none }, accessFlags := 265, code := none }
/-- java/lang/System -/
def k7 : Class := { plain "java/lang/System" (some 0) with
  accessFlags := 49
  interfaces := #[]
  cf := some (fileOf pool7 8 #[.nestMembers #[319, 327, 801, 108, 663, 208]] #[{ accessFlags := 2, nameIndex := 5, descriptorIndex := 6, attributes := #[] }, { accessFlags := 265, nameIndex := 727, descriptorIndex := 728, attributes := #[] }] 49 2 #[] #[{ accessFlags := 25, nameIndex := 507, descriptorIndex := 526, attributes := #[] }, { accessFlags := 25, nameIndex := 399, descriptorIndex := 155, attributes := #[] }, { accessFlags := 25, nameIndex := 396, descriptorIndex := 155, attributes := #[] }, { accessFlags := 10, nameIndex := 525, descriptorIndex := 526, attributes := #[] }, { accessFlags := 26, nameIndex := 674, descriptorIndex := 12, attributes := #[] }, { accessFlags := 26, nameIndex := 677, descriptorIndex := 12, attributes := #[] }, { accessFlags := 10, nameIndex := 11, descriptorIndex := 12, attributes := #[] }, { accessFlags := 74, nameIndex := 175, descriptorIndex := 176, attributes := #[] }, { accessFlags := 10, nameIndex := 491, descriptorIndex := 222, attributes := #[] }, { accessFlags := 74, nameIndex := 29, descriptorIndex := 30, attributes := #[] }, { accessFlags := 74, nameIndex := 154, descriptorIndex := 155, attributes := #[] }, { accessFlags := 10, nameIndex := 217, descriptorIndex := 218, attributes := #[] }, { accessFlags := 10, nameIndex := 221, descriptorIndex := 222, attributes := #[] }, { accessFlags := 8, nameIndex := 562, descriptorIndex := 563, attributes := #[] }])
  fields := #[{ name := "in", type := (.object "java/io/InputStream"), accessFlags := 25, slot := 0, constantValue := 0 }, { name := "out", type := (.object "java/io/PrintStream"), accessFlags := 25, slot := 1, constantValue := 0 }, { name := "err", type := (.object "java/io/PrintStream"), accessFlags := 25, slot := 2, constantValue := 0 }, { name := "initialIn", type := (.object "java/io/InputStream"), accessFlags := 10, slot := 3, constantValue := 0 }, { name := "NEVER", type := .int, accessFlags := 26, slot := 4, constantValue := 0 }, { name := "MAYBE", type := .int, accessFlags := 26, slot := 5, constantValue := 0 }, { name := "allowSecurityManager", type := .int, accessFlags := 10, slot := 6, constantValue := 0 }, { name := "security", type := (.object "java/lang/SecurityManager"), accessFlags := 74, slot := 7, constantValue := 0 }, { name := "notSupportedJnuEncoding", type := (.object "java/lang/String"), accessFlags := 10, slot := 8, constantValue := 0 }, { name := "cons", type := (.object "java/io/Console"), accessFlags := 74, slot := 9, constantValue := 0 }, { name := "initialErrStream", type := (.object "java/io/PrintStream"), accessFlags := 74, slot := 10, constantValue := 0 }, { name := "props", type := (.object "java/util/Properties"), accessFlags := 10, slot := 11, constantValue := 0 }, { name := "lineSeparator", type := (.object "java/lang/String"), accessFlags := 10, slot := 12, constantValue := 0 }, { name := "bootLayer", type := (.object "java/lang/ModuleLayer"), accessFlags := 8, slot := 13, constantValue := 0 }]
  methods := #[k7m0, k7m1]
  instanceTypes := #[]
  staticTypes := #[(.object "java/io/InputStream"), (.object "java/io/PrintStream"), (.object "java/io/PrintStream"), (.object "java/io/InputStream"), .int, .int, .int, (.object "java/lang/SecurityManager"), (.object "java/lang/String"), (.object "java/io/Console"), (.object "java/io/PrintStream"), (.object "java/util/Properties"), (.object "java/lang/String"), (.object "java/lang/ModuleLayer")]
  resolved := Array.replicate 834 none
  statics := none }

def pool8 : Array CpInfo := pool [(1, .methodref 2 3), (0, .class_ 4), (0, .nameAndType 5 6), (0, u "java/lang/Object"), (0, u "<init>"), (0, u "()V"), (0, .fieldref 8 9), (0, .class_ 10), (0, .nameAndType 11 12), (0, u "com/example/verichor/verichor/explore/StateSet"), (0, u "lowest"), (0, u "I"), (2, .fieldref 8 16), (0, .nameAndType 17 18), (0, u "members"), (0, u "[I"), (2, .fieldref 8 22), (0, .nameAndType 23 24), (0, u "bits"), (0, u "[J"), (0, .fieldref 8 26), (0, .nameAndType 27 12), (0, u "numbers"), (0, .methodref 29 30), (0, .class_ 31), (0, .nameAndType 32 33), (0, u "java/util/Arrays"), (0, u "hashCode"), (0, u "([J)I"), (0, .fieldref 8 35), (0, .nameAndType 36 12), (0, u "hash"), (0, .methodref 29 38), (0, .nameAndType 32 39), (0, u "([I)I"), (23, u "([I)V"), (10, .class_ 75), (0, u "com/example/verichor/verichor/explore/StateSet$Builder")] 2

def k8c0 : Code := { maxStack := 8, maxLocals := 9, code := prog_217_method_1_code, exceptionTable := #[], attributes := #[] }
def k8m0 : Method := { name := "<init>", desc := "([I)V", sig := { parameters := [(.array .int)], returnType := none }, accessFlags := 2, code := some k8c0 }
/-- com/example/verichor/verichor/explore/StateSet -/
def k8 : Class := { plain "com/example/verichor/verichor/explore/StateSet" (some 0) with
  accessFlags := 48
  interfaces := #[]
  cf := some (fileOf pool8 8 #[.nestMembers #[74]] #[{ accessFlags := 2, nameIndex := 5, descriptorIndex := 63, attributes := #[] }] 48 2 #[] #[{ accessFlags := 18, nameIndex := 11, descriptorIndex := 12, attributes := #[] }, { accessFlags := 18, nameIndex := 17, descriptorIndex := 18, attributes := #[] }, { accessFlags := 18, nameIndex := 23, descriptorIndex := 24, attributes := #[] }, { accessFlags := 18, nameIndex := 27, descriptorIndex := 12, attributes := #[] }, { accessFlags := 18, nameIndex := 36, descriptorIndex := 12, attributes := #[] }])
  fields := #[{ name := "lowest", type := .int, accessFlags := 18, slot := 0, constantValue := 0 }, { name := "members", type := (.array .int), accessFlags := 18, slot := 1, constantValue := 0 }, { name := "bits", type := (.array .long), accessFlags := 18, slot := 2, constantValue := 0 }, { name := "numbers", type := .int, accessFlags := 18, slot := 3, constantValue := 0 }, { name := "hash", type := .int, accessFlags := 18, slot := 4, constantValue := 0 }]
  methods := #[k8m0]
  instanceTypes := #[.int, (.array .int), (.array .long), .int, .int]
  staticTypes := #[]
  resolved := Array.replicate 78 none
  statics := none }

def pool9 : Array CpInfo := pool [(9, u "<init>"), (6, .class_ 18), (1, u "java/lang/Object"), (0, u "()V"), (1, .class_ 23), (1, u "jdk/internal/util/ArraysSupport"), (0, u "LOG2_ARRAY_LONG_INDEX_SCALE"), (0, u "I"), (2, u "U"), (0, u "Ljdk/internal/misc/Unsafe;"), (8, u "BIG_ENDIAN"), (0, u "Z"), (8, u "LOG2_BYTE_BIT_SIZE"), (4, u "LOG2_ARRAY_INT_INDEX_SCALE"), (19, u "hashCode"), (8, .class_ 83), (0, u "[I"), (0, .methodref 21 85), (0, .nameAndType 73 86), (0, u "(I[III)I"), (21, u "JLA"), (0, u "Ljdk/internal/access/JavaLangAccess;"), (11, u "LOG2_ARRAY_BOOLEAN_INDEX_SCALE"), (9, u "LOG2_ARRAY_BYTE_INDEX_SCALE"), (5, u "LOG2_ARRAY_CHAR_INDEX_SCALE"), (5, u "LOG2_ARRAY_SHORT_INDEX_SCALE"), (18, u "LOG2_ARRAY_FLOAT_INDEX_SCALE"), (24, u "LOG2_ARRAY_DOUBLE_INDEX_SCALE"), (89, u "T_BOOLEAN"), (2, u "T_CHAR"), (1, u "T_FLOAT"), (1, u "T_DOUBLE"), (1, u "T_BYTE"), (1, u "T_SHORT"), (1, u "T_INT"), (1, u "T_LONG"), (1, u "SOFT_MAX_ARRAY_LENGTH"), (26, u "vectorizedHashCode"), (0, u "(Ljava/lang/Object;IIII)I")] 55

def k9m0 : Method := { name := "<init>", desc := "()V", sig := { parameters := [], returnType := none }, accessFlags := 2, code := none }
def k9c1 : Code := { maxStack := 4, maxLocals := 5, code := jdk_48_method_4_code, exceptionTable := #[], attributes := #[] }
def k9m1 : Method := { name := "vectorizedHashCode", desc := "(Ljava/lang/Object;IIII)I", sig := { parameters := [(.object "java/lang/Object"), .int, .int, .int, .int], returnType := some .int }, accessFlags := 9, code := some k9c1 }
def k9c2 : Code := { maxStack := 3, maxLocals := 6, code := jdk_48_method_9_code, exceptionTable := #[], attributes := #[] }
def k9m2 : Method := { name := "hashCode", desc := "(I[III)I", sig := { parameters := [.int, (.array .int), .int, .int], returnType := some .int }, accessFlags := 10, code := some k9c2 }
/-- jdk/internal/util/ArraysSupport -/
def k9 : Class := { plain "jdk/internal/util/ArraysSupport" (some 0) with
  accessFlags := 33
  interfaces := #[]
  cf := some (fileOf pool9 21 #[] #[{ accessFlags := 2, nameIndex := 9, descriptorIndex := 19, attributes := #[] }, { accessFlags := 9, nameIndex := 321, descriptorIndex := 322, attributes := #[] }, { accessFlags := 10, nameIndex := 73, descriptorIndex := 86, attributes := #[] }] 33 16 #[] #[{ accessFlags := 24, nameIndex := 28, descriptorIndex := 29, attributes := #[] }, { accessFlags := 26, nameIndex := 38, descriptorIndex := 39, attributes := #[] }, { accessFlags := 25, nameIndex := 121, descriptorIndex := 25, attributes := #[] }, { accessFlags := 25, nameIndex := 131, descriptorIndex := 25, attributes := #[] }, { accessFlags := 25, nameIndex := 137, descriptorIndex := 25, attributes := #[] }, { accessFlags := 25, nameIndex := 143, descriptorIndex := 25, attributes := #[] }, { accessFlags := 25, nameIndex := 53, descriptorIndex := 25, attributes := #[] }, { accessFlags := 25, nameIndex := 24, descriptorIndex := 25, attributes := #[] }, { accessFlags := 25, nameIndex := 162, descriptorIndex := 25, attributes := #[] }, { accessFlags := 25, nameIndex := 187, descriptorIndex := 25, attributes := #[] }, { accessFlags := 26, nameIndex := 48, descriptorIndex := 25, attributes := #[] }, { accessFlags := 25, nameIndex := 277, descriptorIndex := 25, attributes := #[] }, { accessFlags := 25, nameIndex := 280, descriptorIndex := 25, attributes := #[] }, { accessFlags := 25, nameIndex := 282, descriptorIndex := 25, attributes := #[] }, { accessFlags := 25, nameIndex := 284, descriptorIndex := 25, attributes := #[] }, { accessFlags := 25, nameIndex := 286, descriptorIndex := 25, attributes := #[] }, { accessFlags := 25, nameIndex := 288, descriptorIndex := 25, attributes := #[] }, { accessFlags := 25, nameIndex := 290, descriptorIndex := 25, attributes := #[] }, { accessFlags := 25, nameIndex := 292, descriptorIndex := 25, attributes := #[] }, { accessFlags := 26, nameIndex := 108, descriptorIndex := 109, attributes := #[] }, { accessFlags := 25, nameIndex := 294, descriptorIndex := 25, attributes := #[] }])
  fields := #[{ name := "U", type := (.object "jdk/internal/misc/Unsafe"), accessFlags := 24, slot := 0, constantValue := 0 }, { name := "BIG_ENDIAN", type := .boolean, accessFlags := 26, slot := 1, constantValue := 0 }, { name := "LOG2_ARRAY_BOOLEAN_INDEX_SCALE", type := .int, accessFlags := 25, slot := 2, constantValue := 0 }, { name := "LOG2_ARRAY_BYTE_INDEX_SCALE", type := .int, accessFlags := 25, slot := 3, constantValue := 0 }, { name := "LOG2_ARRAY_CHAR_INDEX_SCALE", type := .int, accessFlags := 25, slot := 4, constantValue := 0 }, { name := "LOG2_ARRAY_SHORT_INDEX_SCALE", type := .int, accessFlags := 25, slot := 5, constantValue := 0 }, { name := "LOG2_ARRAY_INT_INDEX_SCALE", type := .int, accessFlags := 25, slot := 6, constantValue := 0 }, { name := "LOG2_ARRAY_LONG_INDEX_SCALE", type := .int, accessFlags := 25, slot := 7, constantValue := 0 }, { name := "LOG2_ARRAY_FLOAT_INDEX_SCALE", type := .int, accessFlags := 25, slot := 8, constantValue := 0 }, { name := "LOG2_ARRAY_DOUBLE_INDEX_SCALE", type := .int, accessFlags := 25, slot := 9, constantValue := 0 }, { name := "LOG2_BYTE_BIT_SIZE", type := .int, accessFlags := 26, slot := 10, constantValue := 0 }, { name := "T_BOOLEAN", type := .int, accessFlags := 25, slot := 11, constantValue := 0 }, { name := "T_CHAR", type := .int, accessFlags := 25, slot := 12, constantValue := 0 }, { name := "T_FLOAT", type := .int, accessFlags := 25, slot := 13, constantValue := 0 }, { name := "T_DOUBLE", type := .int, accessFlags := 25, slot := 14, constantValue := 0 }, { name := "T_BYTE", type := .int, accessFlags := 25, slot := 15, constantValue := 0 }, { name := "T_SHORT", type := .int, accessFlags := 25, slot := 16, constantValue := 0 }, { name := "T_INT", type := .int, accessFlags := 25, slot := 17, constantValue := 0 }, { name := "T_LONG", type := .int, accessFlags := 25, slot := 18, constantValue := 0 }, { name := "JLA", type := (.object "jdk/internal/access/JavaLangAccess"), accessFlags := 26, slot := 19, constantValue := 0 }, { name := "SOFT_MAX_ARRAY_LENGTH", type := .int, accessFlags := 25, slot := 20, constantValue := 0 }]
  methods := #[k9m0, k9m1, k9m2]
  instanceTypes := #[]
  staticTypes := #[(.object "jdk/internal/misc/Unsafe"), .boolean, .int, .int, .int, .int, .int, .int, .int, .int, .int, .int, .int, .int, .int, .int, .int, .int, .int, (.object "jdk/internal/access/JavaLangAccess"), .int]
  resolved := Array.replicate 378 none
  statics := none }

def pool10 : Array CpInfo := pool [(1, u "java/lang/Cloneable"), (0, .class_ 1), (0, u "java/lang/Object"), (0, .class_ 3)] 3

/-- java/lang/Cloneable -/
def k10 : Class := { plain "java/lang/Cloneable" (some 0) with
  accessFlags := 1537
  interfaces := #[]
  cf := some (fileOf pool10 2 #[] #[] 1537 4 #[] #[])
  fields := #[]
  methods := #[]
  instanceTypes := #[]
  staticTypes := #[]
  resolved := Array.replicate 8 none
  statics := none }

def pool11 : Array CpInfo := pool [(1, u "java/io/Serializable"), (0, .class_ 1), (0, u "java/lang/Object"), (0, .class_ 3)] 3

/-- java/io/Serializable -/
def k11 : Class := { plain "java/io/Serializable" (some 0) with
  accessFlags := 1537
  interfaces := #[]
  cf := some (fileOf pool11 2 #[] #[] 1537 4 #[] #[])
  fields := #[]
  methods := #[]
  instanceTypes := #[]
  staticTypes := #[]
  resolved := Array.replicate 8 none
  statics := none }

/-- the primitive byte -/
def k12 : Class := { plain "byte" none with kind := .primitive 'B', accessFlags := 0x411 }
/-- [B -/
def k13 : Class := { plain "[B" (some 0) with kind := .array 12 .byte, interfaces := #[10, 11], accessFlags := 1041 }

/-- the primitive int -/
def k14 : Class := { plain "int" none with kind := .primitive 'I', accessFlags := 0x411 }
/-- [I -/
def k15 : Class := { plain "[I" (some 0) with kind := .array 14 .int, interfaces := #[10, 11], accessFlags := 1041 }

/-- the primitive long -/
def k16 : Class := { plain "long" none with kind := .primitive 'J', accessFlags := 0x411 }
/-- [J -/
def k17 : Class := { plain "[J" (some 0) with kind := .array 16 .long, interfaces := #[10, 11], accessFlags := 1041 }

def heap : Heap := #[]
def classes : Array Class := #[k0, k1, k2, k3, k4, k5, k6, k7, k8, k9, k10, k11, k12, k13, k14, k15, k16, k17]
def interned : List (Array UInt16 × Addr) := []
def slotsUsed : Nat := 0
def theMethod : MethodId := ⟨1, 1⟩
def args0 : Array Value := #[.int 0, .int 0, .int 0, .int 0, .int 0]
def aboutOver (below : List Frame) : State where
  vm := { classes := classes, interned := interned.toArray }
  heap := heap
  slotsUsed := slotsUsed
  threads := #[{ frames := .invoking theMethod args0 :: below }]
def below0 : List Frame := [.native { method := ⟨0, 0⟩, args := #[] }]
def about1 : State := aboutOver below0
def p0 : Program := .bare "" "" ""
def e0 : Env := launch0.env 0 0 0
theorem w_frames : about1.frames = Frame.invoking theMethod args0 :: below0 := rfl
set_option maxRecDepth 65536 in
theorem w_args : argsFit about1.vm theMethod args0 = true := by decide +kernel
set_option maxRecDepth 65536 in
theorem w_heap : heapFits about1 = true := by decide +kernel
set_option maxRecDepth 65536 in
theorem w_runnable : about1.curStatus? = some .runnable := by decide +kernel
set_option maxRecDepth 65536 in
theorem w_alone : about1.alone = true := by decide +kernel
set_option maxRecDepth 65536 in
theorem w_named : about1.methodNamed? x = some theMethod := by decide +kernel
set_option maxRecDepth 65536 in
theorem w_hears : about1.hears theMethod below0 = true := by decide +kernel
set_option maxRecDepth 65536 in
theorem w_ripe : about1.ripe theMethod args0 below0 = true := by decide +kernel
theorem w_running : about1.status = .running := rfl
set_option maxRecDepth 65536 in
theorem w_room : about1.hasRoom e0.platform room_1 = true :=
  launch0.hasRoom_least _ room_1 (by decide +kernel) (by decide +kernel) (by decide +kernel) (by decide +kernel) (by decide +kernel) (by decide +kernel)
theorem allAtoms_all (ts : List Jvm.Cond) (a : Array Jvm.Value) (st : Jvm.State) : (allAtoms ts).before a st = ts.all (fun c => c.before a st) := by
  induction ts with
  | nil => rfl
  | cons c t ih =>
    show (Jvm.Cond.and c (allAtoms t)).before a st = _
    rw [Jvm.Cond.before_and, ih, List.all_cons]
def words1 : List Jvm.Cond := Jvm.Cond.code x code maxLocals ret :: tables_1
/-- a 'code' word, met by the world's own term for the bytes: nothing is compared byte by byte -/
theorem code_word {y : MethodName} {bytes : ByteArray} {mx : Nat} {rt : Option FieldType} {a : Array Value} {s : State} {m : MethodId} {meth : Method} {c : Code} (h1 : s.methodNamed? y = some m) (h2 : s.vm.method? m = some meth) (h3 : meth.code = some c) (h4 : c.code = bytes)
    (h5 : (c.maxLocals == mx && c.exceptionTable.isEmpty && decide (c.maxStack ≤ mostOperands) && decide (meth.sig.returnType = rt) && !meth.locks && decide (parseMethodDescriptor y.desc = some meth.sig)) = true) : (Jvm.Cond.code y bytes mx rt).before a s = true := by
  simp only [Bool.and_eq_true, beq_iff_eq, Bool.not_eq_true', decide_eq_true_eq] at h5
  obtain ⟨⟨⟨⟨⟨g1, g2⟩, g3⟩, g4⟩, g5⟩, g6⟩ := h5
  simp [Cond.before, Cond.holds, Cond.value, h1, h2, h3, h4, g1, g2, g3, g4, g5, g6]
def isCode : Jvm.Cond → Bool
  | .code _ _ _ _ => true
  | _ => false
theorem all_split {L : List Jvm.Cond} {P : Jvm.Cond → Bool} (h1 : L.all (fun c => isCode c || P c) = true) (h2 : ∀ c ∈ L.filter isCode, P c = true) : L.all P = true := by
  refine List.all_eq_true.mpr fun c hc => ?_
  have h := List.all_eq_true.mp h1 c hc
  rcases Bool.eq_false_or_eq_true (isCode c) with hi | hi
  · exact h2 c (List.mem_filter.mpr ⟨hc, hi⟩)
  · simpa [hi] using h
set_option maxRecDepth 65536 in
theorem w_c0 : (Jvm.Cond.code x code maxLocals ret).before args0 about1 = true := code_word (m := ⟨1, 1⟩) (meth := k1m1) (c := k1c1) (by decide +kernel) rfl rfl rfl (by decide +kernel)
set_option maxRecDepth 65536 in
theorem w_c1 : (Jvm.Cond.code ({ cls := "com/example/verichor/verichor/explore/StateSet$Builder", name := "<init>", desc := "()V" } : Jvm.MethodName) prog_218_method_1_code (1 : Nat) (Option.none : Option Jvm.ClassFile.FieldType)).before args0 about1 = true := code_word (m := ⟨2, 0⟩) (meth := k2m0) (c := k2c0) (by decide +kernel) rfl rfl rfl (by decide +kernel)
set_option maxRecDepth 65536 in
theorem w_c2 : (Jvm.Cond.code ({ cls := "java/lang/Object", name := "<init>", desc := "()V" } : Jvm.MethodName) object_method_1_code (1 : Nat) (Option.none : Option Jvm.ClassFile.FieldType)).before args0 about1 = true := code_word (m := ⟨0, 0⟩) (meth := k0m0) (c := k0c0) (by decide +kernel) rfl rfl rfl (by decide +kernel)
set_option maxRecDepth 65536 in
theorem w_c3 : (Jvm.Cond.code ({ cls := "com/example/verichor/verichor/composition/Ints", name := "<init>", desc := "()V" } : Jvm.MethodName) prog_72_method_1_code (1 : Nat) (Option.none : Option Jvm.ClassFile.FieldType)).before args0 about1 = true := code_word (m := ⟨3, 0⟩) (meth := k3m0) (c := k3c0) (by decide +kernel) rfl rfl rfl (by decide +kernel)
set_option maxRecDepth 65536 in
theorem w_c4 : (Jvm.Cond.code ({ cls := "com/example/verichor/verichor/explore/StateSet$Builder", name := "add", desc := "(I)Z" } : Jvm.MethodName) prog_218_method_3_code (3 : Nat) (Option.some Jvm.ClassFile.FieldType.boolean)).before args0 about1 = true := code_word (m := ⟨2, 2⟩) (meth := k2m2) (c := k2c2) (by decide +kernel) rfl rfl rfl (by decide +kernel)
set_option maxRecDepth 65536 in
theorem w_c5 : (Jvm.Cond.code ({ cls := "com/example/verichor/verichor/explore/StateSet$Builder", name := "contains", desc := "(I)Z" } : Jvm.MethodName) prog_218_method_2_code (3 : Nat) (Option.some Jvm.ClassFile.FieldType.boolean)).before args0 about1 = true := code_word (m := ⟨2, 1⟩) (meth := k2m1) (c := k2c1) (by decide +kernel) rfl rfl rfl (by decide +kernel)
set_option maxRecDepth 65536 in
theorem w_c6 : (Jvm.Cond.code ({ cls := "com/example/verichor/verichor/composition/Ints", name := "add", desc := "(I)V" } : Jvm.MethodName) prog_72_method_2_code (2 : Nat) (Option.none : Option Jvm.ClassFile.FieldType)).before args0 about1 = true := code_word (m := ⟨3, 1⟩) (meth := k3m1) (c := k3c1) (by decide +kernel) rfl rfl rfl (by decide +kernel)
set_option maxRecDepth 65536 in
theorem w_c7 : (Jvm.Cond.code ({ cls := "com/example/verichor/verichor/explore/StateSet$Builder", name := "build", desc := "()Lcom/example/verichor/verichor/explore/StateSet;" } : Jvm.MethodName) prog_218_method_4_code (6 : Nat) (Option.some (Jvm.ClassFile.FieldType.object "com/example/verichor/verichor/explore/StateSet"))).before args0 about1 = true := code_word (m := ⟨2, 3⟩) (meth := k2m3) (c := k2c3) (by decide +kernel) rfl rfl rfl (by decide +kernel)
set_option maxRecDepth 65536 in
theorem w_c8 : (Jvm.Cond.code ({ cls := "com/example/verichor/verichor/composition/Ints", name := "sort", desc := "()V" } : Jvm.MethodName) prog_72_method_7_code (1 : Nat) (Option.none : Option Jvm.ClassFile.FieldType)).before args0 about1 = true := code_word (m := ⟨3, 3⟩) (meth := k3m3) (c := k3c3) (by decide +kernel) rfl rfl rfl (by decide +kernel)
set_option maxRecDepth 65536 in
theorem w_c9 : (Jvm.Cond.code ({ cls := "java/util/Arrays", name := "sort", desc := "([III)V" } : Jvm.MethodName) jdk_65_method_3_code (3 : Nat) (Option.none : Option Jvm.ClassFile.FieldType)).before args0 about1 = true := code_word (m := ⟨4, 1⟩) (meth := k4m1) (c := k4c1) (by decide +kernel) rfl rfl rfl (by decide +kernel)
set_option maxRecDepth 65536 in
theorem w_c10 : (Jvm.Cond.code ({ cls := "java/util/Arrays", name := "rangeCheck", desc := "(III)V" } : Jvm.MethodName) jdk_65_method_30_code (3 : Nat) (Option.none : Option Jvm.ClassFile.FieldType)).before args0 about1 = true := code_word (m := ⟨4, 2⟩) (meth := k4m2) (c := k4c2) (by decide +kernel) rfl rfl rfl (by decide +kernel)
set_option maxRecDepth 65536 in
theorem w_c11 : (Jvm.Cond.code ({ cls := "java/util/DualPivotQuicksort", name := "sort", desc := "([IIII)V" } : Jvm.MethodName) jdk_2529_method_3_code (7 : Nat) (Option.none : Option Jvm.ClassFile.FieldType)).before args0 about1 = true := code_word (m := ⟨5, 1⟩) (meth := k5m1) (c := k5c1) (by decide +kernel) rfl rfl rfl (by decide +kernel)
set_option maxRecDepth 65536 in
theorem w_c12 : (Jvm.Cond.code ({ cls := "java/util/DualPivotQuicksort", name := "sort", desc := "(Ljava/util/DualPivotQuicksort$Sorter;[IIII)V" } : Jvm.MethodName) jdk_2529_method_4_code (21 : Nat) (Option.none : Option Jvm.ClassFile.FieldType)).before args0 about1 = true := code_word (m := ⟨5, 2⟩) (meth := k5m2) (c := k5c2) (by decide +kernel) rfl rfl rfl (by decide +kernel)
set_option maxRecDepth 65536 in
theorem w_c13 : (Jvm.Cond.code ({ cls := "java/util/DualPivotQuicksort", name := "insertionSort", desc := "([III)V" } : Jvm.MethodName) jdk_2529_method_6_code (6 : Nat) (Option.none : Option Jvm.ClassFile.FieldType)).before args0 about1 = true := code_word (m := ⟨5, 3⟩) (meth := k5m3) (c := k5c3) (by decide +kernel) rfl rfl rfl (by decide +kernel)
set_option maxRecDepth 65536 in
theorem w_c14 : (Jvm.Cond.code ({ cls := "com/example/verichor/verichor/composition/Ints", name := "toArray", desc := "()[I" } : Jvm.MethodName) prog_72_method_8_code (1 : Nat) (Option.some (Jvm.ClassFile.FieldType.array Jvm.ClassFile.FieldType.int))).before args0 about1 = true := code_word (m := ⟨3, 4⟩) (meth := k3m4) (c := k3c4) (by decide +kernel) rfl rfl rfl (by decide +kernel)
set_option maxRecDepth 65536 in
theorem w_c15 : (Jvm.Cond.code ({ cls := "java/util/Arrays", name := "copyOf", desc := "([II)[I" } : Jvm.MethodName) jdk_65_method_123_code (3 : Nat) (Option.some (Jvm.ClassFile.FieldType.array Jvm.ClassFile.FieldType.int))).before args0 about1 = true := code_word (m := ⟨4, 3⟩) (meth := k4m3) (c := k4c3) (by decide +kernel) rfl rfl rfl (by decide +kernel)
set_option maxRecDepth 65536 in
theorem w_c16 : (Jvm.Cond.code ({ cls := "java/lang/Math", name := "min", desc := "(II)I" } : Jvm.MethodName) jdk_29_method_69_code (2 : Nat) (Option.some Jvm.ClassFile.FieldType.int)).before args0 about1 = true := code_word (m := ⟨6, 2⟩) (meth := k6m2) (c := k6c2) (by decide +kernel) rfl rfl rfl (by decide +kernel)
set_option maxRecDepth 65536 in
theorem w_c17 : (Jvm.Cond.code ({ cls := "com/example/verichor/verichor/composition/Ints", name := "clear", desc := "()V" } : Jvm.MethodName) prog_72_method_6_code (1 : Nat) (Option.none : Option Jvm.ClassFile.FieldType)).before args0 about1 = true := code_word (m := ⟨3, 2⟩) (meth := k3m2) (c := k3c2) (by decide +kernel) rfl rfl rfl (by decide +kernel)
set_option maxRecDepth 65536 in
theorem w_c18 : (Jvm.Cond.code ({ cls := "com/example/verichor/verichor/explore/StateSet", name := "<init>", desc := "([I)V" } : Jvm.MethodName) prog_217_method_1_code (9 : Nat) (Option.none : Option Jvm.ClassFile.FieldType)).before args0 about1 = true := code_word (m := ⟨8, 0⟩) (meth := k8m0) (c := k8c0) (by decide +kernel) rfl rfl rfl (by decide +kernel)
set_option maxRecDepth 65536 in
theorem w_c19 : (Jvm.Cond.code ({ cls := "java/util/Arrays", name := "hashCode", desc := "([J)I" } : Jvm.MethodName) jdk_65_method_149_code (8 : Nat) (Option.some Jvm.ClassFile.FieldType.int)).before args0 about1 = true := code_word (m := ⟨4, 5⟩) (meth := k4m5) (c := k4c5) (by decide +kernel) rfl rfl rfl (by decide +kernel)
set_option maxRecDepth 65536 in
theorem w_c20 : (Jvm.Cond.code ({ cls := "java/lang/Math", name := "max", desc := "(II)I" } : Jvm.MethodName) jdk_29_method_65_code (2 : Nat) (Option.some Jvm.ClassFile.FieldType.int)).before args0 about1 = true := code_word (m := ⟨6, 1⟩) (meth := k6m1) (c := k6c1) (by decide +kernel) rfl rfl rfl (by decide +kernel)
set_option maxRecDepth 65536 in
theorem w_c21 : (Jvm.Cond.code ({ cls := "java/util/Arrays", name := "copyOf", desc := "([JI)[J" } : Jvm.MethodName) jdk_65_method_124_code (3 : Nat) (Option.some (Jvm.ClassFile.FieldType.array Jvm.ClassFile.FieldType.long))).before args0 about1 = true := code_word (m := ⟨4, 4⟩) (meth := k4m4) (c := k4c4) (by decide +kernel) rfl rfl rfl (by decide +kernel)
set_option maxRecDepth 65536 in
theorem w_c22 : (Jvm.Cond.code ({ cls := "java/util/Arrays", name := "hashCode", desc := "([I)I" } : Jvm.MethodName) jdk_65_method_150_code (1 : Nat) (Option.some Jvm.ClassFile.FieldType.int)).before args0 about1 = true := code_word (m := ⟨4, 6⟩) (meth := k4m6) (c := k4c6) (by decide +kernel) rfl rfl rfl (by decide +kernel)
set_option maxRecDepth 65536 in
theorem w_c23 : (Jvm.Cond.code ({ cls := "jdk/internal/util/ArraysSupport", name := "vectorizedHashCode", desc := "(Ljava/lang/Object;IIII)I" } : Jvm.MethodName) jdk_48_method_4_code (5 : Nat) (Option.some Jvm.ClassFile.FieldType.int)).before args0 about1 = true := code_word (m := ⟨9, 1⟩) (meth := k9m1) (c := k9c1) (by decide +kernel) rfl rfl rfl (by decide +kernel)
set_option maxRecDepth 65536 in
theorem w_c24 : (Jvm.Cond.code ({ cls := "jdk/internal/util/ArraysSupport", name := "hashCode", desc := "(I[III)I" } : Jvm.MethodName) jdk_48_method_9_code (6 : Nat) (Option.some Jvm.ClassFile.FieldType.int)).before args0 about1 = true := code_word (m := ⟨9, 2⟩) (meth := k9m2) (c := k9c2) (by decide +kernel) rfl rfl rfl (by decide +kernel)
def codes1 : List Jvm.Cond := [Jvm.Cond.code x code maxLocals ret, Jvm.Cond.code ({ cls := "com/example/verichor/verichor/explore/StateSet$Builder", name := "<init>", desc := "()V" } : Jvm.MethodName) prog_218_method_1_code (1 : Nat) (Option.none : Option Jvm.ClassFile.FieldType), Jvm.Cond.code ({ cls := "java/lang/Object", name := "<init>", desc := "()V" } : Jvm.MethodName) object_method_1_code (1 : Nat) (Option.none : Option Jvm.ClassFile.FieldType), Jvm.Cond.code ({ cls := "com/example/verichor/verichor/composition/Ints", name := "<init>", desc := "()V" } : Jvm.MethodName) prog_72_method_1_code (1 : Nat) (Option.none : Option Jvm.ClassFile.FieldType), Jvm.Cond.code ({ cls := "com/example/verichor/verichor/explore/StateSet$Builder", name := "add", desc := "(I)Z" } : Jvm.MethodName) prog_218_method_3_code (3 : Nat) (Option.some Jvm.ClassFile.FieldType.boolean), Jvm.Cond.code ({ cls := "com/example/verichor/verichor/explore/StateSet$Builder", name := "contains", desc := "(I)Z" } : Jvm.MethodName) prog_218_method_2_code (3 : Nat) (Option.some Jvm.ClassFile.FieldType.boolean), Jvm.Cond.code ({ cls := "com/example/verichor/verichor/composition/Ints", name := "add", desc := "(I)V" } : Jvm.MethodName) prog_72_method_2_code (2 : Nat) (Option.none : Option Jvm.ClassFile.FieldType), Jvm.Cond.code ({ cls := "com/example/verichor/verichor/explore/StateSet$Builder", name := "build", desc := "()Lcom/example/verichor/verichor/explore/StateSet;" } : Jvm.MethodName) prog_218_method_4_code (6 : Nat) (Option.some (Jvm.ClassFile.FieldType.object "com/example/verichor/verichor/explore/StateSet")), Jvm.Cond.code ({ cls := "com/example/verichor/verichor/composition/Ints", name := "sort", desc := "()V" } : Jvm.MethodName) prog_72_method_7_code (1 : Nat) (Option.none : Option Jvm.ClassFile.FieldType), Jvm.Cond.code ({ cls := "java/util/Arrays", name := "sort", desc := "([III)V" } : Jvm.MethodName) jdk_65_method_3_code (3 : Nat) (Option.none : Option Jvm.ClassFile.FieldType), Jvm.Cond.code ({ cls := "java/util/Arrays", name := "rangeCheck", desc := "(III)V" } : Jvm.MethodName) jdk_65_method_30_code (3 : Nat) (Option.none : Option Jvm.ClassFile.FieldType), Jvm.Cond.code ({ cls := "java/util/DualPivotQuicksort", name := "sort", desc := "([IIII)V" } : Jvm.MethodName) jdk_2529_method_3_code (7 : Nat) (Option.none : Option Jvm.ClassFile.FieldType), Jvm.Cond.code ({ cls := "java/util/DualPivotQuicksort", name := "sort", desc := "(Ljava/util/DualPivotQuicksort$Sorter;[IIII)V" } : Jvm.MethodName) jdk_2529_method_4_code (21 : Nat) (Option.none : Option Jvm.ClassFile.FieldType), Jvm.Cond.code ({ cls := "java/util/DualPivotQuicksort", name := "insertionSort", desc := "([III)V" } : Jvm.MethodName) jdk_2529_method_6_code (6 : Nat) (Option.none : Option Jvm.ClassFile.FieldType), Jvm.Cond.code ({ cls := "com/example/verichor/verichor/composition/Ints", name := "toArray", desc := "()[I" } : Jvm.MethodName) prog_72_method_8_code (1 : Nat) (Option.some (Jvm.ClassFile.FieldType.array Jvm.ClassFile.FieldType.int)), Jvm.Cond.code ({ cls := "java/util/Arrays", name := "copyOf", desc := "([II)[I" } : Jvm.MethodName) jdk_65_method_123_code (3 : Nat) (Option.some (Jvm.ClassFile.FieldType.array Jvm.ClassFile.FieldType.int)), Jvm.Cond.code ({ cls := "java/lang/Math", name := "min", desc := "(II)I" } : Jvm.MethodName) jdk_29_method_69_code (2 : Nat) (Option.some Jvm.ClassFile.FieldType.int), Jvm.Cond.code ({ cls := "com/example/verichor/verichor/composition/Ints", name := "clear", desc := "()V" } : Jvm.MethodName) prog_72_method_6_code (1 : Nat) (Option.none : Option Jvm.ClassFile.FieldType), Jvm.Cond.code ({ cls := "com/example/verichor/verichor/explore/StateSet", name := "<init>", desc := "([I)V" } : Jvm.MethodName) prog_217_method_1_code (9 : Nat) (Option.none : Option Jvm.ClassFile.FieldType), Jvm.Cond.code ({ cls := "java/util/Arrays", name := "hashCode", desc := "([J)I" } : Jvm.MethodName) jdk_65_method_149_code (8 : Nat) (Option.some Jvm.ClassFile.FieldType.int), Jvm.Cond.code ({ cls := "java/lang/Math", name := "max", desc := "(II)I" } : Jvm.MethodName) jdk_29_method_65_code (2 : Nat) (Option.some Jvm.ClassFile.FieldType.int), Jvm.Cond.code ({ cls := "java/util/Arrays", name := "copyOf", desc := "([JI)[J" } : Jvm.MethodName) jdk_65_method_124_code (3 : Nat) (Option.some (Jvm.ClassFile.FieldType.array Jvm.ClassFile.FieldType.long)), Jvm.Cond.code ({ cls := "java/util/Arrays", name := "hashCode", desc := "([I)I" } : Jvm.MethodName) jdk_65_method_150_code (1 : Nat) (Option.some Jvm.ClassFile.FieldType.int), Jvm.Cond.code ({ cls := "jdk/internal/util/ArraysSupport", name := "vectorizedHashCode", desc := "(Ljava/lang/Object;IIII)I" } : Jvm.MethodName) jdk_48_method_4_code (5 : Nat) (Option.some Jvm.ClassFile.FieldType.int), Jvm.Cond.code ({ cls := "jdk/internal/util/ArraysSupport", name := "hashCode", desc := "(I[III)I" } : Jvm.MethodName) jdk_48_method_9_code (6 : Nat) (Option.some Jvm.ClassFile.FieldType.int)]
set_option maxRecDepth 65536 in
theorem codes_eq : words1.filter isCode = codes1 := rfl
theorem w_codes : ∀ c ∈ words1.filter isCode, c.before args0 about1 = true := by
  rw [codes_eq]
  intro c hc
  simp only [codes1, List.mem_cons, List.not_mem_nil, or_false] at hc
  rcases hc with rfl | rfl | rfl | rfl | rfl | rfl | rfl | rfl | rfl | rfl | rfl | rfl | rfl | rfl | rfl | rfl | rfl | rfl | rfl | rfl | rfl | rfl | rfl | rfl | rfl
  · exact w_c0
  · exact w_c1
  · exact w_c2
  · exact w_c3
  · exact w_c4
  · exact w_c5
  · exact w_c6
  · exact w_c7
  · exact w_c8
  · exact w_c9
  · exact w_c10
  · exact w_c11
  · exact w_c12
  · exact w_c13
  · exact w_c14
  · exact w_c15
  · exact w_c16
  · exact w_c17
  · exact w_c18
  · exact w_c19
  · exact w_c20
  · exact w_c21
  · exact w_c22
  · exact w_c23
  · exact w_c24
set_option maxRecDepth 65536 in
theorem w_t1 : (words1.take 24).all (fun c => isCode c || c.before args0 about1) = true := by decide +kernel
set_option maxRecDepth 65536 in
theorem w_t2 : ((words1.drop 24).take 24).all (fun c => isCode c || c.before args0 about1) = true := by decide +kernel
set_option maxRecDepth 65536 in
theorem w_t3 : (((words1.drop 24).drop 24).take 24).all (fun c => isCode c || c.before args0 about1) = true := by decide +kernel
set_option maxRecDepth 65536 in
theorem w_t4 : ((((words1.drop 24).drop 24).drop 24).take 24).all (fun c => isCode c || c.before args0 about1) = true := by decide +kernel
set_option maxRecDepth 65536 in
theorem w_t5 : (((((words1.drop 24).drop 24).drop 24).drop 24).take 24).all (fun c => isCode c || c.before args0 about1) = true := by decide +kernel
set_option maxRecDepth 65536 in
theorem w_t6 : (((((words1.drop 24).drop 24).drop 24).drop 24).drop 24).all (fun c => isCode c || c.before args0 about1) = true := by decide +kernel
theorem w_tables : (allAtoms (Jvm.Cond.code x code maxLocals ret :: tables_1)).before args0 about1 = true := by
  rw [allAtoms_all]
  show words1.all (fun c => c.before args0 about1) = true
  refine all_split ?_ w_codes
  rw [← List.take_append_drop 24 words1, List.all_append, w_t1, ← List.take_append_drop 24 (words1.drop 24), List.all_append, w_t2, ← List.take_append_drop 24 ((words1.drop 24).drop 24), List.all_append, w_t3, ← List.take_append_drop 24 (((words1.drop 24).drop 24).drop 24), List.all_append, w_t4, ← List.take_append_drop 24 ((((words1.drop 24).drop 24).drop 24).drop 24), List.all_append, w_t5, w_t6]
  rfl
set_option maxRecDepth 65536 in
theorem w_case : (Jvm.Cond.and given_1 narrow_1).before args0 about1 = true := by decide +kernel
theorem w_applies : (headSpec (Jvm.Cond.code x code maxLocals ret :: tables_1) room_1).applies x e0.platform about1 = true :=
  (Spec.applies_iff w_frames).mpr ⟨w_running, w_runnable, w_alone, w_named, w_hears, w_ripe, w_room, w_tables⟩
theorem atStart : AtStart classFile x code maxLocals ret World_1 tables_1 room_1 Calls_1 rest_1 Pre_1 launch0 p0 e0 about1 theMethod args0 below0 :=
  ⟨lists_1, trivial, launch0.admits_env _ _ _, launch0.least_env, fairChoices_fair.cas, fairChoices_fair.clock, w_frames, w_args, w_heap, w_applies, trivial, trivial, w_case⟩
end start1
theorem witness_1 : WitnessClaimed_1 := ⟨start1.p0, start1.e0, start1.about1, start1.theMethod, start1.args0, start1.below0, start1.atStart⟩
end Jvm.Pilot.@@N@@
