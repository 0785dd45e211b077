import JvmDerived
import JvmDerived.Pilot.@@N@@Statement
import JvmDerived.Pilot.@@N@@Code
set_option linter.unusedVariables false
set_option linter.unusedSimpArgs false
@@BLOCK:NumsL.lean.txt@@
namespace Jvm.Own
open Sem ClassFile Op Lib Jvm.Stand Jvm.Free Jvm.LawKit Jvm.RoadKit
/-- what is known of one object made since the law began: an array with all its values, or an object with some of its fields -/
abbrev D : Type := Sum (FieldType × List Value) (String × List ((String × String × String) × Value))
abbrev Hp : Type := List (Nat × D)
abbrev ia (xs : List Int32) : D := .inl (.int, xs.map Value.int)
abbrev la (xs : List Int64) : D := .inl (.long, xs.map Value.long)
abbrev ba (xs : List Int32) : D := .inl (.byte, xs.map Value.int)
def OkD (Z : State) (h : Heap) (a : Nat) (d : D) : Prop :=
  match d with
  | .inl q => ∃ c : Cell, Arr Z h a c q.1 ∧ c.slots = q.2.toArray ∧ Exa Z h a ("[" ++ q.1.toString)
  | .inr q => Exa Z h a q.1 ∧ ∀ (j : Nat) (f : (String × String × String) × Value), q.2[j]? = some f → Fld Z h a f.1.1 f.1.2.1 f.1.2.2 f.2
def HL (Z : State) (h0 : Heap) (ds : Hp) (h : Heap) : Prop :=
  Ext h0 h ∧ (∀ (i : Nat) (q : Nat × D), ds[i]? = some q → h0.size ≤ q.1 ∧ OkD Z h q.1 q.2) ∧ ∀ (i j : Nat) (q r : Nat × D), ds[i]? = some q → ds[j]? = some r → q.1 = r.1 → i = j
theorem OkD.lt {Z : State} {h : Heap} {a : Nat} {d : D} (O : OkD Z h a d) : a < h.size := by
  cases d with
  | inl q => obtain ⟨c, A, -⟩ := O; exact A.lt
  | inr q => exact O.1.lt
theorem OkD.ext {Z : State} {h h' : Heap} {a : Nat} {d : D} (E : Ext h h') (O : OkD Z h a d) : OkD Z h' a d := by
  cases d with
  | inl q => obtain ⟨c, A, S, X⟩ := O; exact ⟨c, A.ext E, S, X.ext E⟩
  | inr q => exact ⟨O.1.ext E, fun j f hf => (O.2 j f hf).ext E⟩
theorem OkD.other {Z : State} {h h' : Heap} {a b : Nat} {d : D} {sl : Nat} {v : Value} (W : Wr h h' a sl v) (O : OkD Z h b d) (hne : b ≠ a) : OkD Z h' b d := by
  cases d with
  | inl q => obtain ⟨c, A, S, X⟩ := O; exact ⟨c, A.other W hne, S, X.wr W⟩
  | inr q => exact ⟨O.1.wr W, fun j f hf => (O.2 j f hf).other W (Or.inl hne)⟩
theorem HL.nil (Z : State) (h0 : Heap) : HL Z h0 [] h0 :=
  ⟨⟨Nat.le_refl _, fun _ _ q => q⟩, fun i q hq => by simp at hq, fun i j q r hq => by simp at hq⟩
theorem HL.lts {Z : State} {h0 h : Heap} {ds : Hp} (H : HL Z h0 ds h) : ∀ q ∈ ds, q.1 < h.size := fun q hq => by
  obtain ⟨i, hi⟩ := List.mem_iff_getElem?.mp hq
  exact (H.2.1 i q hi).2.lt
theorem HL.new {Z : State} {h0 h h' : Heap} {ds : Hp} {d : D} (H : HL Z h0 ds h) (E : Ext h h') (O : OkD Z h' h.size d) : HL Z h0 (ds ++ [(h.size, d)]) h' := by
  refine ⟨⟨Nat.le_trans H.1.1 E.1, fun a c q => E.2 a c (H.1.2 a c q)⟩, fun i q hq => ?_, fun i j q r hq hr he => ?_⟩
  · rcases Nat.lt_or_ge i ds.length with hi | hi
    · rw [List.getElem?_append_left hi] at hq
      exact ⟨(H.2.1 i q hq).1, (H.2.1 i q hq).2.ext E⟩
    · rw [List.getElem?_append_right hi] at hq
      obtain ⟨hz, rfl⟩ : i - ds.length = 0 ∧ (h.size, d) = q := by
        rcases Nat.eq_zero_or_pos (i - ds.length) with z | z
        · rw [z] at hq; exact ⟨z, by simpa using hq⟩
        · rw [List.getElem?_eq_none (by simp; omega)] at hq; cases hq
      exact ⟨H.1.1, O⟩
  · have key : ∀ i (q : Nat × D), (ds ++ [(h.size, d)])[i]? = some q → (i < ds.length ∧ ds[i]? = some q ∧ q.1 < h.size) ∨ (i = ds.length ∧ q.1 = h.size) := fun i q hq => by
      rcases Nat.lt_or_ge i ds.length with hi | hi
      · rw [List.getElem?_append_left hi] at hq
        exact Or.inl ⟨hi, hq, (H.2.1 i q hq).2.lt⟩
      · rw [List.getElem?_append_right hi] at hq
        rcases Nat.eq_zero_or_pos (i - ds.length) with z | z
        · rw [z] at hq
          have e : (h.size, d) = q := by simpa using hq
          exact Or.inr ⟨by omega, by rw [← e]⟩
        · rw [List.getElem?_eq_none (by simp; omega)] at hq; cases hq
    rcases key i q hq with ⟨-, a2, a3⟩ | ⟨a1, a2⟩ <;> rcases key j r hr with ⟨-, b2, b3⟩ | ⟨b1, b2⟩
    · exact H.2.2 i j q r a2 b2 he
    · omega
    · omega
    · omega
theorem HL.set {Z : State} {h0 h h' : Heap} {ds : Hp} {i a sl : Nat} {d d' : D} {v : Value} (H : HL Z h0 ds h) (ha : ds[i]? = some (a, d)) (W : Wr h h' a sl v) (O : OkD Z h' a d') : HL Z h0 (ds.set i (a, d')) h' := by
  have hge := (H.2.1 i _ ha).1
  have hi : i < ds.length := (List.getElem?_eq_some_iff.mp ha).1
  have key : ∀ j (q : Nat × D), (ds.set i (a, d'))[j]? = some q → (j = i ∧ q = (a, d')) ∨ (j ≠ i ∧ ds[j]? = some q) := fun j q hq => by
    rw [List.getElem?_set] at hq
    by_cases e : i = j
    · subst e; rw [if_pos rfl, if_pos hi] at hq; exact Or.inl ⟨rfl, (Option.some.inj hq).symm⟩
    · rw [if_neg e] at hq; exact Or.inr ⟨fun x => e x.symm, hq⟩
  refine ⟨⟨by rw [W.size]; exact H.1.1, fun b c q => ?_⟩, fun j q hq => ?_, fun j k q r hq hr he => ?_⟩
  · have hb := H.1.2 b c q
    obtain ⟨c', e1, -, -, -, e5, -⟩ := wr_at W hb
    have hlt : b < h0.size := (Array.getElem?_eq_some_iff.mp q).1
    rw [← e5 (fun e => by subst e; exact absurd hlt (Nat.not_lt.mpr hge))]; exact e1
  · rcases key j q hq with ⟨-, rfl⟩ | ⟨hne, hq'⟩
    · exact ⟨hge, O⟩
    · exact ⟨(H.2.1 j q hq').1, (H.2.1 j q hq').2.other W fun e => hne (H.2.2 j i q _ hq' ha e)⟩
  · have ad : ∀ j (q : Nat × D), (ds.set i (a, d'))[j]? = some q → ∃ q' : Nat × D, ds[j]? = some q' ∧ q'.1 = q.1 := fun j q hq => by
      rcases key j q hq with ⟨rfl, rfl⟩ | ⟨-, hq'⟩
      · exact ⟨_, ha, rfl⟩
      · exact ⟨q, hq', rfl⟩
    obtain ⟨q', a1, a2⟩ := ad j q hq
    obtain ⟨r', b1, b2⟩ := ad k r hr
    exact H.2.2 j k q' r' a1 b1 (by rw [a2, b2]; exact he)
abbrev Cx : Type := Program × Launch × Env × Room × State × MethodId × Array Value × List Frame × Method × Code × State × Heap
/-- FROM HERE THE BODY RUNS TO ITS RETURN, and what it returns and leaves is as Q says -/
def Go (W : Cx) (Q : Option Value → Hp → Prop) (ds : Hp) (k n pc : Nat) (Ls : Array Slot) (st : List Value) : Prop :=
  match W with
  | (p, l, e, R, s, m, args, below, meth, c, Z, h0) =>
    ∀ (T : State) (L : List Loc), Fr h0.size L → Stand p l e R s m args below meth c T L k n → HL Z h0 ds T.heap →
      ∃ (s₂ : State) (v : Option Value), Steps p.tables e below (T.setTop (mkF m pc Ls st)) s₂ ∧ s₂.status = .running ∧ Ended s₂ below (.returned v) ∧
        ∃ (L' : List Loc) (ds' : Hp), Fr h0.size L' ∧ HL Z h0 ds' s₂.heap ∧ Q v ds' ∧ FrameEnd s (.returned v) s₂ L' R.cells R.slots
/-- what a body's walk knows -/
def Ok (W : Cx) (B : ByteArray) (y : MethodName) (rm : Room) (mL : Nat) (ret : Option FieldType) (l : Launch) (Z : State) (h0 : Heap) : Prop :=
  match W with
  | (p, l', _, R, s, m, _, _, meth, c, Z', h0') => p.tables.exec = Jvm.exec ∧ Z.Warmed39 s.vm ∧ c.code = B ∧ c.maxLocals = mL ∧ s.vm.findClass y.cls = some m.cls ∧ meth.sig.returnType = ret ∧ meth.locks = false ∧ meth.name = y.name ∧ R = rm ∧ l' = l ∧ Z' = Z ∧ h0' = h0
def Ct (l : Launch) (Z : State) (h0 : Heap) (y : MethodName) (B : ByteArray) (mL : Nat) (ret : Option FieldType) (ws : List Jvm.Cond) (rm : Room) (as : Array Value) (ds : Hp) (Q : Option Value → Hp → Prop) : Prop :=
  ∀ h, HL Z h0 ds h → MetFree l y (head1 (Jvm.Cond.code y B mL ret :: ws) rm) (fun a U => a = as ∧ Z.Warmed39 U.vm ∧ U.heap = h) (fun _ _ _ _ _ => True)
    (fun _ U o U' => ∃ v L, o = .returned v ∧ (Fr h0.size L ∧ ∃ ds', HL Z h0 ds' U'.heap ∧ Q v ds') ∧ FrameEnd U o U' L rm.cells rm.slots)
theorem Ct.of_go {l : Launch} {Z : State} {h0 : Heap} {y : MethodName} {B : ByteArray} {mL : Nat} {ret : Option FieldType} {ws : List Jvm.Cond} {rm : Room} {as : Array Value} {ds : Hp} {Q : Option Value → Hp → Prop} {Ls : Array Slot}
    (hpn : plainFor y = true) (ef : ∀ m, entryFrame m as mL = mkF m 0 Ls []) (body : ∀ W, Ok W B y rm mL ret l Z h0 → Go W Q ds 0 0 0 Ls []) : Ct l Z h0 y B mL ret ws rm as ds Q := by
  intro h H
  refine MetFree.of_bodySF hpn hisR ?_
  intro p e s m args below meth c s₁ Bd hml0 hP hK
  obtain ⟨rfl, hZ, hh⟩ := hP
  have X0 : Stand p l e rm s m args below meth c s₁ [] 0 0 := Stand.of_body Bd
  have e0 : s₁.heap = h := by rw [← hh, Bd.state]; rfl
  obtain ⟨s₂, v, h1, h2, h3, L', ds', h4, h5, h6, h7⟩ := body (p, l, e, rm, s, m, args, below, meth, c, Z, h0) ⟨Bd.exec, hZ, Bd.bytes, hml0, findClass_of_methodNamed Bd.named, Bd.returns, Bd.notSynchronized, (name_of_methodNamed Bd.named Bd.method).1, rfl, rfl, rfl, rfl⟩ s₁ [] (Fr.nil _) X0 (by rw [e0]; exact H)
  exact ⟨s₂, .returned v, castTop (ef m) h1, h2, h3, v, L', rfl, ⟨h4, ds', h5, h6⟩, h7⟩
theorem Ct.mono {l : Launch} {Z : State} {h0 : Heap} {y : MethodName} {B : ByteArray} {mL : Nat} {ret : Option FieldType} {ws : List Jvm.Cond} {rm : Room} {as : Array Value} {ds : Hp} {Q Q' : Option Value → Hp → Prop}
    (h : Ct l Z h0 y B mL ret ws rm as ds Q) (f : ∀ v ds', Q v ds' → Q' v ds') : Ct l Z h0 y B mL ret ws rm as ds Q' := by
  intro hp H p e ha hc hk s m args below hf happ hP hK
  obtain ⟨n, o, h1, h2, h3, v, L, h4, ⟨h5, ds', h6, h7⟩, h8⟩ := h hp H p e ha hc hk s m args below hf happ hP hK
  exact ⟨n, o, h1, h2, h3, v, L, h4, ⟨h5, ds', h6, f _ _ h7⟩, h8⟩
section Steps
variable {W : Cx} {B : ByteArray} {y : MethodName} {rm : Room} {mL : Nat} {ret : Option FieldType} {l : Launch} {Z : State} {h0 : Heap} {Q : Option Value → Hp → Prop} {ds : Hp} {k n pc pc' : Nat} {Ls Ls' : Array Slot} {st st' : List Value} {a0 : Array Value}
theorem Go.mono {Q' : Option Value → Hp → Prop} (g : Go W Q ds k n pc Ls st) (f : ∀ v ds', Q v ds' → Q' v ds') : Go W Q' ds k n pc Ls st := by
  obtain ⟨p, l, e, R, s, m, args, below, meth, c, Z, h0⟩ := W
  intro T L N X H
  obtain ⟨s₂, v, h1, h2, h3, L', ds', h4, h5, h6, h7⟩ := g T L N X H
  exact ⟨s₂, v, h1, h2, h3, L', ds', h4, h5, f _ _ h6, h7⟩
theorem go_of (K : Ok W B y rm mL ret l Z h0)
    (f : ∀ {p : Program} {l : Launch} {e : Env} {R : Room} {s : State} {m : MethodId} {args : Array Value} {below : List Frame} {meth : Method} {c : Code} {T : State} {L : List Loc}, p.tables.exec = Jvm.exec → c.code = B → s.vm.findClass y.cls = some m.cls → Z.Warmed39 s.vm →
      Stand p l e R s m args below meth c T L k n → ∀ t, Steps p.tables e below (T.setTop (mkF m pc' Ls' st')) t → Steps p.tables e below (T.setTop (mkF m pc Ls st)) t)
    (hr : Go W Q ds k n pc' Ls' st') : Go W Q ds k n pc Ls st := by
  obtain ⟨p, l, e, R, s, m, args, below, meth, c, Z, h0⟩ := W
  obtain ⟨k1, k2, k3, k4, k5, k6, k7, k8, rfl, rfl, rfl, rfl⟩ := K
  intro T L N X H
  obtain ⟨s₂, v, h1, rest⟩ := hr T L N X H
  exact ⟨s₂, v, f k1 k3 k5 k2 X s₂ h1, rest⟩

theorem go_iload (K : Ok W B y rm mL ret l Z h0) {i : Nat} {v : Int32} (hd : decode B pc = .ok (.iload i, 2)) (hl : Ls[i]? = some (.val (.int v))) (hp : pc + 2 = pc')
    (hr : Go W Q ds k n pc' Ls (.int v :: st)) : Go W Q ds k n pc Ls st := by
  subst hp
  exact go_of K (fun hx hby hown hZ X t h => XS.iload X.here hx rfl (hb hby hd) hl h) hr
theorem go_aload (K : Ok W B y rm mL ret l Z h0) {i : Nat} {v : Value} (hd : decode B pc = .ok (.aload i, 2)) (hl : Ls[i]? = some (.val v)) (hv : v.isRef = true) (hp : pc + 2 = pc')
    (hr : Go W Q ds k n pc' Ls (v :: st)) : Go W Q ds k n pc Ls st := by
  subst hp
  exact go_of K (fun hx hby hown hZ X t h => XS.aload X.here hx rfl (hb hby hd) hl hv h) hr
theorem go_lload (K : Ok W B y rm mL ret l Z h0) {i : Nat} {v : Int64} (hd : decode B pc = .ok (.lload i, 2)) (hl : Ls[i]? = some (.val (.long v))) (hp : pc + 2 = pc')
    (hr : Go W Q ds k n pc' Ls (.long v :: st)) : Go W Q ds k n pc Ls st := by
  subst hp
  exact go_of K (fun hx hby hown hZ X t h => XT.lload X.here hx rfl (hb hby hd) hl h) hr
theorem go_istore (K : Ok W B y rm mL ret l Z h0) {i : Nat} {x : Int32} (hd : decode B pc = .ok (.istore i, 2)) (hl : storeLocals Ls i (.int x) = some Ls') (hp : pc + 2 = pc')
    (hr : Go W Q ds k n pc' Ls' st) : Go W Q ds k n pc Ls (.int x :: st) := by
  subst hp
  exact go_of K (fun hx hby hown hZ X t h => XS.istore X.here hx rfl (hb hby hd) rfl hl h) hr
theorem go_astore (K : Ok W B y rm mL ret l Z h0) {i : Nat} {x : Value} (hd : decode B pc = .ok (.astore i, 2)) (hv : x.isRef = true) (hl : storeLocals Ls i x = some Ls') (hp : pc + 2 = pc')
    (hr : Go W Q ds k n pc' Ls' st) : Go W Q ds k n pc Ls (x :: st) := by
  subst hp
  exact go_of K (fun hx hby hown hZ X t h => XS.astore X.here hx rfl (hb hby hd) rfl hv hl h) hr
theorem go_lstore (K : Ok W B y rm mL ret l Z h0) {i : Nat} {x : Int64} (hd : decode B pc = .ok (.lstore i, 2)) (hl : storeLocals Ls i (.long x) = some Ls') (hp : pc + 2 = pc')
    (hr : Go W Q ds k n pc' Ls' st) : Go W Q ds k n pc Ls (.long x :: st) := by
  subst hp
  exact go_of K (fun hx hby hown hZ X t h => XT.lstore X.here hx rfl (hb hby hd) rfl hl h) hr
theorem go_iloadN (K : Ok W B y rm mL ret l Z h0) {i : Fin 4} {v : Int32} (hd : decode B pc = .ok (.iload_n i, 1)) (hl : Ls[i.val]? = some (.val (.int v))) (hp : pc + 1 = pc')
    (hr : Go W Q ds k n pc' Ls (.int v :: st)) : Go W Q ds k n pc Ls st := by
  subst hp
  exact go_of K (fun hx hby hown hZ X t h => XS.iloadN X.here hx rfl (hb hby hd) hl h) hr
theorem go_aloadN (K : Ok W B y rm mL ret l Z h0) {i : Fin 4} {v : Value} (hd : decode B pc = .ok (.aload_n i, 1)) (hl : Ls[i.val]? = some (.val v)) (hv : v.isRef = true) (hp : pc + 1 = pc')
    (hr : Go W Q ds k n pc' Ls (v :: st)) : Go W Q ds k n pc Ls st := by
  subst hp
  exact go_of K (fun hx hby hown hZ X t h => XS.aloadN X.here hx rfl (hb hby hd) hl hv h) hr
theorem go_lloadN (K : Ok W B y rm mL ret l Z h0) {i : Fin 4} {v : Int64} (hd : decode B pc = .ok (.lload_n i, 1)) (hl : Ls[i.val]? = some (.val (.long v))) (hp : pc + 1 = pc')
    (hr : Go W Q ds k n pc' Ls (.long v :: st)) : Go W Q ds k n pc Ls st := by
  subst hp
  exact go_of K (fun hx hby hown hZ X t h => XT.lloadN X.here hx rfl (hb hby hd) hl h) hr
theorem go_istoreN (K : Ok W B y rm mL ret l Z h0) {i : Fin 4} {x : Int32} (hd : decode B pc = .ok (.istore_n i, 1)) (hl : storeLocals Ls i.val (.int x) = some Ls') (hp : pc + 1 = pc')
    (hr : Go W Q ds k n pc' Ls' st) : Go W Q ds k n pc Ls (.int x :: st) := by
  subst hp
  exact go_of K (fun hx hby hown hZ X t h => XS.istoreN X.here hx rfl (hb hby hd) rfl hl h) hr
theorem go_astoreN (K : Ok W B y rm mL ret l Z h0) {i : Fin 4} {x : Value} (hd : decode B pc = .ok (.astore_n i, 1)) (hv : x.isRef = true) (hl : storeLocals Ls i.val x = some Ls') (hp : pc + 1 = pc')
    (hr : Go W Q ds k n pc' Ls' st) : Go W Q ds k n pc Ls (x :: st) := by
  subst hp
  exact go_of K (fun hx hby hown hZ X t h => XS.astoreN X.here hx rfl (hb hby hd) rfl hv hl h) hr
theorem go_lstoreN (K : Ok W B y rm mL ret l Z h0) {i : Fin 4} {x : Int64} (hd : decode B pc = .ok (.lstore_n i, 1)) (hl : storeLocals Ls i.val (.long x) = some Ls') (hp : pc + 1 = pc')
    (hr : Go W Q ds k n pc' Ls' st) : Go W Q ds k n pc Ls (.long x :: st) := by
  subst hp
  exact go_of K (fun hx hby hown hZ X t h => XT.lstoreN X.here hx rfl (hb hby hd) rfl hl h) hr
theorem go_iconst (K : Ok W B y rm mL ret l Z h0) {i : Int} {v : Int32} (hd : decode B pc = .ok (.iconst i, 1)) (hv : Int32.ofInt i = v) (hp : pc + 1 = pc')
    (hr : Go W Q ds k n pc' Ls (.int v :: st)) : Go W Q ds k n pc Ls st := by
  subst hp
  exact go_of K (fun hx hby hown hZ X t h => XT.iconstV X.here hx rfl v (hb hby hd) hv h) hr
theorem go_bipush (K : Ok W B y rm mL ret l Z h0) {i : Int} {v : Int32} (hd : decode B pc = .ok (.bipush i, 2)) (hv : (Int8.ofInt i).toInt32 = v) (hp : pc + 2 = pc')
    (hr : Go W Q ds k n pc' Ls (.int v :: st)) : Go W Q ds k n pc Ls st := by
  subst hp
  exact go_of K (fun hx hby hown hZ X t h => XT.bipushV X.here hx rfl v (hb hby hd) hv h) hr
theorem go_sipush (K : Ok W B y rm mL ret l Z h0) {i : Int} {v : Int32} (hd : decode B pc = .ok (.sipush i, 3)) (hv : (Int16.ofInt i).toInt32 = v) (hp : pc + 3 = pc')
    (hr : Go W Q ds k n pc' Ls (.int v :: st)) : Go W Q ds k n pc Ls st := by
  subst hp
  exact go_of K (fun hx hby hown hZ X t h => XT.sipushV X.here hx rfl v (hb hby hd) hv h) hr
theorem go_lconst (K : Ok W B y rm mL ret l Z h0) {i : Fin 2} {v : Int64} (hd : decode B pc = .ok (.lconst i, 1)) (hv : Int64.ofNat i = v) (hp : pc + 1 = pc')
    (hr : Go W Q ds k n pc' Ls (.long v :: st)) : Go W Q ds k n pc Ls st := by
  subst hp
  exact go_of K (fun hx hby hown hZ X t h => XT.lconstV X.here hx rfl v (hb hby hd) hv h) hr
theorem go_null (K : Ok W B y rm mL ret l Z h0)  (hd : decode B pc = .ok (.aconst_null, 1))  (hp : pc + 1 = pc')
    (hr : Go W Q ds k n pc' Ls (.null :: st)) : Go W Q ds k n pc Ls st := by
  subst hp
  exact go_of K (fun hx hby hown hZ X t h => XS.aconstNull X.here hx rfl (hb hby hd) h) hr
theorem go_iadd (K : Ok W B y rm mL ret l Z h0) {x z : Int32} (hd : decode B pc = .ok (.iadd, 1))  (hp : pc + 1 = pc')
    (hr : Go W Q ds k n pc' Ls (.int (x + z) :: st)) : Go W Q ds k n pc Ls (.int z :: .int x :: st) := by
  subst hp
  exact go_of K (fun hx hby hown hZ X t h => XS.iadd X.here hx rfl (hb hby hd) rfl h) hr
theorem go_isub (K : Ok W B y rm mL ret l Z h0) {x z : Int32} (hd : decode B pc = .ok (.isub, 1))  (hp : pc + 1 = pc')
    (hr : Go W Q ds k n pc' Ls (.int (x - z) :: st)) : Go W Q ds k n pc Ls (.int z :: .int x :: st) := by
  subst hp
  exact go_of K (fun hx hby hown hZ X t h => XS.isub X.here hx rfl (hb hby hd) rfl h) hr
theorem go_imul (K : Ok W B y rm mL ret l Z h0) {x z : Int32} (hd : decode B pc = .ok (.imul, 1))  (hp : pc + 1 = pc')
    (hr : Go W Q ds k n pc' Ls (.int (x * z) :: st)) : Go W Q ds k n pc Ls (.int z :: .int x :: st) := by
  subst hp
  exact go_of K (fun hx hby hown hZ X t h => XS.imul X.here hx rfl (hb hby hd) rfl h) hr
theorem go_iand (K : Ok W B y rm mL ret l Z h0) {x z : Int32} (hd : decode B pc = .ok (.iand, 1))  (hp : pc + 1 = pc')
    (hr : Go W Q ds k n pc' Ls (.int (x &&& z) :: st)) : Go W Q ds k n pc Ls (.int z :: .int x :: st) := by
  subst hp
  exact go_of K (fun hx hby hown hZ X t h => XS.iand X.here hx rfl (hb hby hd) rfl h) hr
theorem go_ior (K : Ok W B y rm mL ret l Z h0) {x z : Int32} (hd : decode B pc = .ok (.ior, 1))  (hp : pc + 1 = pc')
    (hr : Go W Q ds k n pc' Ls (.int (x ||| z) :: st)) : Go W Q ds k n pc Ls (.int z :: .int x :: st) := by
  subst hp
  exact go_of K (fun hx hby hown hZ X t h => XT.ior X.here hx rfl (hb hby hd) rfl h) hr
theorem go_ixor (K : Ok W B y rm mL ret l Z h0) {x z : Int32} (hd : decode B pc = .ok (.ixor, 1))  (hp : pc + 1 = pc')
    (hr : Go W Q ds k n pc' Ls (.int (x ^^^ z) :: st)) : Go W Q ds k n pc Ls (.int z :: .int x :: st) := by
  subst hp
  exact go_of K (fun hx hby hown hZ X t h => XT.ixor X.here hx rfl (hb hby hd) rfl h) hr
theorem go_ishl (K : Ok W B y rm mL ret l Z h0) {x z : Int32} (hd : decode B pc = .ok (.ishl, 1))  (hp : pc + 1 = pc')
    (hr : Go W Q ds k n pc' Ls (.int (x <<< (z &&& 31)) :: st)) : Go W Q ds k n pc Ls (.int z :: .int x :: st) := by
  subst hp
  exact go_of K (fun hx hby hown hZ X t h => XT.ishl X.here hx rfl (hb hby hd) rfl h) hr
theorem go_ishr (K : Ok W B y rm mL ret l Z h0) {x z : Int32} (hd : decode B pc = .ok (.ishr, 1))  (hp : pc + 1 = pc')
    (hr : Go W Q ds k n pc' Ls (.int (x >>> (z &&& 31)) :: st)) : Go W Q ds k n pc Ls (.int z :: .int x :: st) := by
  subst hp
  exact go_of K (fun hx hby hown hZ X t h => XT.ishr X.here hx rfl (hb hby hd) rfl h) hr
theorem go_iushr (K : Ok W B y rm mL ret l Z h0) {x z : Int32} (hd : decode B pc = .ok (.iushr, 1))  (hp : pc + 1 = pc')
    (hr : Go W Q ds k n pc' Ls (.int (XT.ushr x z) :: st)) : Go W Q ds k n pc Ls (.int z :: .int x :: st) := by
  subst hp
  exact go_of K (fun hx hby hown hZ X t h => XT.iushr X.here hx rfl (hb hby hd) rfl h) hr
theorem go_ladd (K : Ok W B y rm mL ret l Z h0) {x z : Int64} (hd : decode B pc = .ok (.ladd, 1))  (hp : pc + 1 = pc')
    (hr : Go W Q ds k n pc' Ls (.long (x + z) :: st)) : Go W Q ds k n pc Ls (.long z :: .long x :: st) := by
  subst hp
  exact go_of K (fun hx hby hown hZ X t h => XT.ladd X.here hx rfl (hb hby hd) rfl h) hr
theorem go_lsub (K : Ok W B y rm mL ret l Z h0) {x z : Int64} (hd : decode B pc = .ok (.lsub, 1))  (hp : pc + 1 = pc')
    (hr : Go W Q ds k n pc' Ls (.long (x - z) :: st)) : Go W Q ds k n pc Ls (.long z :: .long x :: st) := by
  subst hp
  exact go_of K (fun hx hby hown hZ X t h => XT.lsub X.here hx rfl (hb hby hd) rfl h) hr
theorem go_lmul (K : Ok W B y rm mL ret l Z h0) {x z : Int64} (hd : decode B pc = .ok (.lmul, 1))  (hp : pc + 1 = pc')
    (hr : Go W Q ds k n pc' Ls (.long (x * z) :: st)) : Go W Q ds k n pc Ls (.long z :: .long x :: st) := by
  subst hp
  exact go_of K (fun hx hby hown hZ X t h => XT.lmul X.here hx rfl (hb hby hd) rfl h) hr
theorem go_land (K : Ok W B y rm mL ret l Z h0) {x z : Int64} (hd : decode B pc = .ok (.land, 1))  (hp : pc + 1 = pc')
    (hr : Go W Q ds k n pc' Ls (.long (x &&& z) :: st)) : Go W Q ds k n pc Ls (.long z :: .long x :: st) := by
  subst hp
  exact go_of K (fun hx hby hown hZ X t h => XT.land X.here hx rfl (hb hby hd) rfl h) hr
theorem go_lor (K : Ok W B y rm mL ret l Z h0) {x z : Int64} (hd : decode B pc = .ok (.lor, 1))  (hp : pc + 1 = pc')
    (hr : Go W Q ds k n pc' Ls (.long (x ||| z) :: st)) : Go W Q ds k n pc Ls (.long z :: .long x :: st) := by
  subst hp
  exact go_of K (fun hx hby hown hZ X t h => XT.lor X.here hx rfl (hb hby hd) rfl h) hr
theorem go_lxor (K : Ok W B y rm mL ret l Z h0) {x z : Int64} (hd : decode B pc = .ok (.lxor, 1))  (hp : pc + 1 = pc')
    (hr : Go W Q ds k n pc' Ls (.long (x ^^^ z) :: st)) : Go W Q ds k n pc Ls (.long z :: .long x :: st) := by
  subst hp
  exact go_of K (fun hx hby hown hZ X t h => XT.lxor X.here hx rfl (hb hby hd) rfl h) hr
theorem go_lshl (K : Ok W B y rm mL ret l Z h0) {x : Int64} {z : Int32} (hd : decode B pc = .ok (.lshl, 1))  (hp : pc + 1 = pc')
    (hr : Go W Q ds k n pc' Ls (.long (x <<< (z.toInt64 &&& 63)) :: st)) : Go W Q ds k n pc Ls (.int z :: .long x :: st) := by
  subst hp
  exact go_of K (fun hx hby hown hZ X t h => XT.lshl X.here hx rfl (hb hby hd) rfl h) hr
theorem go_lshr (K : Ok W B y rm mL ret l Z h0) {x : Int64} {z : Int32} (hd : decode B pc = .ok (.lshr, 1))  (hp : pc + 1 = pc')
    (hr : Go W Q ds k n pc' Ls (.long (x >>> (z.toInt64 &&& 63)) :: st)) : Go W Q ds k n pc Ls (.int z :: .long x :: st) := by
  subst hp
  exact go_of K (fun hx hby hown hZ X t h => XT.lshr X.here hx rfl (hb hby hd) rfl h) hr
theorem go_lushr (K : Ok W B y rm mL ret l Z h0) {x : Int64} {z : Int32} (hd : decode B pc = .ok (.lushr, 1))  (hp : pc + 1 = pc')
    (hr : Go W Q ds k n pc' Ls (.long (XT.ushrL x z) :: st)) : Go W Q ds k n pc Ls (.int z :: .long x :: st) := by
  subst hp
  exact go_of K (fun hx hby hown hZ X t h => XT.lushr X.here hx rfl (hb hby hd) rfl h) hr
theorem go_idiv (K : Ok W B y rm mL ret l Z h0) {x z : Int32} (hd : decode B pc = .ok (.idiv, 1)) (hz : z ≠ 0) (hp : pc + 1 = pc')
    (hr : Go W Q ds k n pc' Ls (.int (x / z) :: st)) : Go W Q ds k n pc Ls (.int z :: .int x :: st) := by
  subst hp
  exact go_of K (fun hx hby hown hZ X t h => XS.idiv X.here hx rfl (hb hby hd) rfl hz h) hr
theorem go_irem (K : Ok W B y rm mL ret l Z h0) {x z : Int32} (hd : decode B pc = .ok (.irem, 1)) (hz : z ≠ 0) (hp : pc + 1 = pc')
    (hr : Go W Q ds k n pc' Ls (.int (x % z) :: st)) : Go W Q ds k n pc Ls (.int z :: .int x :: st) := by
  subst hp
  exact go_of K (fun hx hby hown hZ X t h => iremM X hx rfl (hb hby hd) rfl hz h) hr
theorem go_ldiv (K : Ok W B y rm mL ret l Z h0) {x z : Int64} (hd : decode B pc = .ok (.ldiv, 1)) (hz : z ≠ 0) (hp : pc + 1 = pc')
    (hr : Go W Q ds k n pc' Ls (.long (x / z) :: st)) : Go W Q ds k n pc Ls (.long z :: .long x :: st) := by
  subst hp
  exact go_of K (fun hx hby hown hZ X t h => XT.ldiv X.here hx rfl (hb hby hd) rfl hz h) hr
theorem go_ineg (K : Ok W B y rm mL ret l Z h0) {x : Int32} (hd : decode B pc = .ok (.ineg, 1))  (hp : pc + 1 = pc')
    (hr : Go W Q ds k n pc' Ls (.int (-x) :: st)) : Go W Q ds k n pc Ls (.int x :: st) := by
  subst hp
  exact go_of K (fun hx hby hown hZ X t h => XS.ineg X.here hx rfl (hb hby hd) rfl h) hr
theorem go_i2l (K : Ok W B y rm mL ret l Z h0) {x : Int32} (hd : decode B pc = .ok (.i2l, 1))  (hp : pc + 1 = pc')
    (hr : Go W Q ds k n pc' Ls (.long x.toInt64 :: st)) : Go W Q ds k n pc Ls (.int x :: st) := by
  subst hp
  exact go_of K (fun hx hby hown hZ X t h => XT.i2l X.here hx rfl (hb hby hd) rfl h) hr
theorem go_l2i (K : Ok W B y rm mL ret l Z h0) {x : Int64} (hd : decode B pc = .ok (.l2i, 1))  (hp : pc + 1 = pc')
    (hr : Go W Q ds k n pc' Ls (.int x.toInt32 :: st)) : Go W Q ds k n pc Ls (.long x :: st) := by
  subst hp
  exact go_of K (fun hx hby hown hZ X t h => XT.l2i X.here hx rfl (hb hby hd) rfl h) hr
theorem go_i2b (K : Ok W B y rm mL ret l Z h0) {x : Int32} (hd : decode B pc = .ok (.i2b, 1))  (hp : pc + 1 = pc')
    (hr : Go W Q ds k n pc' Ls (.int x.toInt8.toInt32 :: st)) : Go W Q ds k n pc Ls (.int x :: st) := by
  subst hp
  exact go_of K (fun hx hby hown hZ X t h => XT.i2b X.here hx rfl (hb hby hd) rfl h) hr
theorem go_i2c (K : Ok W B y rm mL ret l Z h0) {x : Int32} (hd : decode B pc = .ok (.i2c, 1))  (hp : pc + 1 = pc')
    (hr : Go W Q ds k n pc' Ls (.int x.toUInt32.toUInt16.toUInt32.toInt32 :: st)) : Go W Q ds k n pc Ls (.int x :: st) := by
  subst hp
  exact go_of K (fun hx hby hown hZ X t h => XT.i2c X.here hx rfl (hb hby hd) rfl h) hr
theorem go_lcmp (K : Ok W B y rm mL ret l Z h0) {x z : Int64} (hd : decode B pc = .ok (.lcmp, 1))  (hp : pc + 1 = pc')
    (hr : Go W Q ds k n pc' Ls (.int (XT.cmpL x z) :: st)) : Go W Q ds k n pc Ls (.long z :: .long x :: st) := by
  subst hp
  exact go_of K (fun hx hby hown hZ X t h => XT.lcmp X.here hx rfl (hb hby hd) rfl h) hr
theorem go_pop (K : Ok W B y rm mL ret l Z h0) {x : Value} (hd : decode B pc = .ok (.pop, 1)) (hc : x.category = 1) (hp : pc + 1 = pc')
    (hr : Go W Q ds k n pc' Ls st) : Go W Q ds k n pc Ls (x :: st) := by
  subst hp
  exact go_of K (fun hx hby hown hZ X t h => XT.pop X.here hx rfl (hb hby hd) rfl hc h) hr
theorem go_dup (K : Ok W B y rm mL ret l Z h0) {x : Value} (hd : decode B pc = .ok (.dup, 1)) (hc : x.category = 1) (hp : pc + 1 = pc')
    (hr : Go W Q ds k n pc' Ls (x :: x :: st)) : Go W Q ds k n pc Ls (x :: st) := by
  subst hp
  exact go_of K (fun hx hby hown hZ X t h => XS.dup X.here hx rfl (hb hby hd) rfl hc h) hr
theorem go_dup_x1 (K : Ok W B y rm mL ret l Z h0) {x z : Value} (hd : decode B pc = .ok (.dup_x1, 1)) (hc : x.category = 1) (hc' : z.category = 1) (hp : pc + 1 = pc')
    (hr : Go W Q ds k n pc' Ls (x :: z :: x :: st)) : Go W Q ds k n pc Ls (x :: z :: st) := by
  subst hp
  exact go_of K (fun hx hby hown hZ X t h => XT.dupX1 X.here hx rfl (hb hby hd) rfl hc hc' h) hr
theorem go_dup2 (K : Ok W B y rm mL ret l Z h0) {x z : Value} (hd : decode B pc = .ok (.dup2, 1)) (hc : x.category = 1) (hc' : z.category = 1) (hp : pc + 1 = pc')
    (hr : Go W Q ds k n pc' Ls (x :: z :: x :: z :: st)) : Go W Q ds k n pc Ls (x :: z :: st) := by
  subst hp
  exact go_of K (fun hx hby hown hZ X t h => XT.dup2 X.here hx rfl (hb hby hd) rfl hc hc' h) hr
theorem go_iinc (K : Ok W B y rm mL ret l Z h0) {i : Nat} {cst : Int} {x v : Int32} (hd : decode B pc = .ok (.iinc i cst, 3)) (hv : Int32.ofInt cst = v) (hl : Ls[i]? = some (.val (.int x))) (hl' : storeLocals Ls i (.int (x + v)) = some Ls') (hp : pc + 3 = pc')
    (hr : Go W Q ds k n pc' Ls' st) : Go W Q ds k n pc Ls st := by
  subst hp
  exact go_of K (fun hx hby hown hZ X t h => XT.iincV X.here hx rfl v (hb hby hd) hv hl hl' h) hr
theorem go_ldc (K : Ok W B y rm mL ret l Z h0) {i : Nat} {v : Int32} (hd : decode B pc = .ok (.ldc i, 2)) (w : (Jvm.Cond.constant y.cls i v).before a0 Z = true) (hp : pc + 2 = pc')
    (hr : Go W Q ds k n pc' Ls (.int v :: st)) : Go W Q ds k n pc Ls st := by
  subst hp
  exact go_of K (fun hx hby hown hZ X t h => X.ldcI hx hown (mv hZ w) rfl (hb hby hd) h) hr
theorem go_ldc2 (K : Ok W B y rm mL ret l Z h0) {i : Nat} {v : Int64} (hd : decode B pc = .ok (.ldc2_w i, 3)) (w : (Jvm.Cond.constantLong y.cls i v).before a0 Z = true) (hp : pc + 3 = pc')
    (hr : Go W Q ds k n pc' Ls (.long v :: st)) : Go W Q ds k n pc Ls st := by
  subst hp
  exact go_of K (fun hx hby hown hZ X t h => X.ldc2J hx hown (mv hZ w) rfl (hb hby hd) h) hr
theorem go_goto (K : Ok W B y rm mL ret l Z h0) {o : Int} (hd : decode B pc = .ok (.goto o, 3)) (ho : 0 ≤ (pc : Int) + o) (hp : ((pc : Int) + o).toNat = pc')
    (hr : Go W Q ds k n pc' Ls st) : Go W Q ds k n pc Ls st :=
  go_of K (fun hx hby hown hZ X t h => XS.goto X.here hx rfl rfl (hb hby hd) ho hp h) hr
theorem go_ifY (K : Ok W B y rm mL ret l Z h0) {o : Int} {cd : ClassFile.Cond} {x : Int32} (hd : decode B pc = .ok (.ifCond cd o, 3)) (hc : ifCond.holds cd x = true) (ho : 0 ≤ (pc : Int) + o) (hp : ((pc : Int) + o).toNat = pc')
    (hr : Go W Q ds k n pc' Ls st) : Go W Q ds k n pc Ls (.int x :: st) :=
  go_of K (fun hx hby hown hZ X t h => XS.ifYes X.here hx rfl rfl (hb hby hd) rfl hc ho hp h) hr
theorem go_ifN (K : Ok W B y rm mL ret l Z h0) {o : Int} {cd : ClassFile.Cond} {x : Int32} (hd : decode B pc = .ok (.ifCond cd o, 3)) (hc : ifCond.holds cd x = false) (hp : pc + 3 = pc')
    (hr : Go W Q ds k n pc' Ls st) : Go W Q ds k n pc Ls (.int x :: st) := by
  subst hp
  exact go_of K (fun hx hby hown hZ X t h => XS.ifNo X.here hx rfl (hb hby hd) rfl hc h) hr
theorem go_icY (K : Ok W B y rm mL ret l Z h0) {o : Int} {cd : ClassFile.Cond} {x z : Int32} (hd : decode B pc = .ok (.if_icmp cd o, 3)) (hc : if_icmp.holds cd x z = true) (ho : 0 ≤ (pc : Int) + o) (hp : ((pc : Int) + o).toNat = pc')
    (hr : Go W Q ds k n pc' Ls st) : Go W Q ds k n pc Ls (.int z :: .int x :: st) :=
  go_of K (fun hx hby hown hZ X t h => XS.icmpYes X.here hx rfl rfl (hb hby hd) rfl hc ho hp h) hr
theorem go_icN (K : Ok W B y rm mL ret l Z h0) {o : Int} {cd : ClassFile.Cond} {x z : Int32} (hd : decode B pc = .ok (.if_icmp cd o, 3)) (hc : if_icmp.holds cd x z = false) (hp : pc + 3 = pc')
    (hr : Go W Q ds k n pc' Ls st) : Go W Q ds k n pc Ls (.int z :: .int x :: st) := by
  subst hp
  exact go_of K (fun hx hby hown hZ X t h => XS.icmpNo X.here hx rfl (hb hby hd) rfl hc h) hr

theorem go_if_eq_t (K : Ok W B y rm mL ret l Z h0) {o : Int} {x : Int32} (hd : decode B pc = .ok (.ifCond .eq o, 3)) (hc : x = 0) (ho : 0 ≤ (pc : Int) + o) (hp : ((pc : Int) + o).toNat = pc')
    (hr : Go W Q ds k n pc' Ls st) : Go W Q ds k n pc Ls (.int x :: st) := go_ifY K hd (XT.i0_eq_t hc) ho hp hr
theorem go_if_eq_f (K : Ok W B y rm mL ret l Z h0) {o : Int} {x : Int32} (hd : decode B pc = .ok (.ifCond .eq o, 3)) (hc : x ≠ 0) (hp : pc + 3 = pc')
    (hr : Go W Q ds k n pc' Ls st) : Go W Q ds k n pc Ls (.int x :: st) := go_ifN K hd (XT.i0_eq_f hc) hp hr
theorem go_if_eq (K : Ok W B y rm mL ret l Z h0) {o : Int} {x : Int32} {pt : Nat} (hd : decode B pc = .ok (.ifCond .eq o, 3)) (ho : 0 ≤ (pc : Int) + o) (ht : ((pc : Int) + o).toNat = pt) (hp : pc + 3 = pc')
    (hy : x = 0 → Go W Q ds k n pt Ls st) (hn : x ≠ 0 → Go W Q ds k n pc' Ls st) : Go W Q ds k n pc Ls (.int x :: st) := by
  by_cases hc : x = 0
  · exact go_if_eq_t K hd hc ho ht (hy hc)
  · exact go_if_eq_f K hd (by first | exact hc | exact Int.not_lt.mp hc | exact Int.not_le.mp hc | exact Decidable.not_not.mp hc) hp (hn (by first | exact hc | exact Int.not_lt.mp hc | exact Int.not_le.mp hc | exact Decidable.not_not.mp hc))
theorem go_ic_eq_t (K : Ok W B y rm mL ret l Z h0) {o : Int} {x z : Int32} (hd : decode B pc = .ok (.if_icmp .eq o, 3)) (hc : x = z) (ho : 0 ≤ (pc : Int) + o) (hp : ((pc : Int) + o).toNat = pc')
    (hr : Go W Q ds k n pc' Ls st) : Go W Q ds k n pc Ls (.int z :: .int x :: st) := go_icY K hd (XT.ii_eq_t hc) ho hp hr
theorem go_ic_eq_f (K : Ok W B y rm mL ret l Z h0) {o : Int} {x z : Int32} (hd : decode B pc = .ok (.if_icmp .eq o, 3)) (hc : x ≠ z) (hp : pc + 3 = pc')
    (hr : Go W Q ds k n pc' Ls st) : Go W Q ds k n pc Ls (.int z :: .int x :: st) := go_icN K hd (XT.ii_eq_f hc) hp hr
theorem go_ic_eq (K : Ok W B y rm mL ret l Z h0) {o : Int} {x z : Int32} {pt : Nat} (hd : decode B pc = .ok (.if_icmp .eq o, 3)) (ho : 0 ≤ (pc : Int) + o) (ht : ((pc : Int) + o).toNat = pt) (hp : pc + 3 = pc')
    (hy : x = z → Go W Q ds k n pt Ls st) (hn : x ≠ z → Go W Q ds k n pc' Ls st) : Go W Q ds k n pc Ls (.int z :: .int x :: st) := by
  by_cases hc : x = z
  · exact go_ic_eq_t K hd hc ho ht (hy hc)
  · exact go_ic_eq_f K hd (by first | exact hc | exact Int.not_lt.mp hc | exact Int.not_le.mp hc | exact Decidable.not_not.mp hc) hp (hn (by first | exact hc | exact Int.not_lt.mp hc | exact Int.not_le.mp hc | exact Decidable.not_not.mp hc))
theorem go_if_ne_t (K : Ok W B y rm mL ret l Z h0) {o : Int} {x : Int32} (hd : decode B pc = .ok (.ifCond .ne o, 3)) (hc : x ≠ 0) (ho : 0 ≤ (pc : Int) + o) (hp : ((pc : Int) + o).toNat = pc')
    (hr : Go W Q ds k n pc' Ls st) : Go W Q ds k n pc Ls (.int x :: st) := go_ifY K hd (XT.i0_ne_t hc) ho hp hr
theorem go_if_ne_f (K : Ok W B y rm mL ret l Z h0) {o : Int} {x : Int32} (hd : decode B pc = .ok (.ifCond .ne o, 3)) (hc : x = 0) (hp : pc + 3 = pc')
    (hr : Go W Q ds k n pc' Ls st) : Go W Q ds k n pc Ls (.int x :: st) := go_ifN K hd (XT.i0_ne_f hc) hp hr
theorem go_if_ne (K : Ok W B y rm mL ret l Z h0) {o : Int} {x : Int32} {pt : Nat} (hd : decode B pc = .ok (.ifCond .ne o, 3)) (ho : 0 ≤ (pc : Int) + o) (ht : ((pc : Int) + o).toNat = pt) (hp : pc + 3 = pc')
    (hy : x ≠ 0 → Go W Q ds k n pt Ls st) (hn : x = 0 → Go W Q ds k n pc' Ls st) : Go W Q ds k n pc Ls (.int x :: st) := by
  by_cases hc : x ≠ 0
  · exact go_if_ne_t K hd hc ho ht (hy hc)
  · exact go_if_ne_f K hd (by first | exact hc | exact Int.not_lt.mp hc | exact Int.not_le.mp hc | exact Decidable.not_not.mp hc) hp (hn (by first | exact hc | exact Int.not_lt.mp hc | exact Int.not_le.mp hc | exact Decidable.not_not.mp hc))
theorem go_ic_ne_t (K : Ok W B y rm mL ret l Z h0) {o : Int} {x z : Int32} (hd : decode B pc = .ok (.if_icmp .ne o, 3)) (hc : x ≠ z) (ho : 0 ≤ (pc : Int) + o) (hp : ((pc : Int) + o).toNat = pc')
    (hr : Go W Q ds k n pc' Ls st) : Go W Q ds k n pc Ls (.int z :: .int x :: st) := go_icY K hd (XT.ii_ne_t hc) ho hp hr
theorem go_ic_ne_f (K : Ok W B y rm mL ret l Z h0) {o : Int} {x z : Int32} (hd : decode B pc = .ok (.if_icmp .ne o, 3)) (hc : x = z) (hp : pc + 3 = pc')
    (hr : Go W Q ds k n pc' Ls st) : Go W Q ds k n pc Ls (.int z :: .int x :: st) := go_icN K hd (XT.ii_ne_f hc) hp hr
theorem go_ic_ne (K : Ok W B y rm mL ret l Z h0) {o : Int} {x z : Int32} {pt : Nat} (hd : decode B pc = .ok (.if_icmp .ne o, 3)) (ho : 0 ≤ (pc : Int) + o) (ht : ((pc : Int) + o).toNat = pt) (hp : pc + 3 = pc')
    (hy : x ≠ z → Go W Q ds k n pt Ls st) (hn : x = z → Go W Q ds k n pc' Ls st) : Go W Q ds k n pc Ls (.int z :: .int x :: st) := by
  by_cases hc : x ≠ z
  · exact go_ic_ne_t K hd hc ho ht (hy hc)
  · exact go_ic_ne_f K hd (by first | exact hc | exact Int.not_lt.mp hc | exact Int.not_le.mp hc | exact Decidable.not_not.mp hc) hp (hn (by first | exact hc | exact Int.not_lt.mp hc | exact Int.not_le.mp hc | exact Decidable.not_not.mp hc))
theorem go_if_lt_t (K : Ok W B y rm mL ret l Z h0) {o : Int} {x : Int32} (hd : decode B pc = .ok (.ifCond .lt o, 3)) (hc : x.toInt < 0) (ho : 0 ≤ (pc : Int) + o) (hp : ((pc : Int) + o).toNat = pc')
    (hr : Go W Q ds k n pc' Ls st) : Go W Q ds k n pc Ls (.int x :: st) := go_ifY K hd (XT.i0_lt_t (Int32.lt_iff_toInt_lt.mpr hc)) ho hp hr
theorem go_if_lt_f (K : Ok W B y rm mL ret l Z h0) {o : Int} {x : Int32} (hd : decode B pc = .ok (.ifCond .lt o, 3)) (hc : 0 ≤ x.toInt) (hp : pc + 3 = pc')
    (hr : Go W Q ds k n pc' Ls st) : Go W Q ds k n pc Ls (.int x :: st) := go_ifN K hd (XT.i0_lt_f (fun q => absurd (Int32.lt_iff_toInt_lt.mp q) (Int.not_lt.mpr hc))) hp hr
theorem go_if_lt (K : Ok W B y rm mL ret l Z h0) {o : Int} {x : Int32} {pt : Nat} (hd : decode B pc = .ok (.ifCond .lt o, 3)) (ho : 0 ≤ (pc : Int) + o) (ht : ((pc : Int) + o).toNat = pt) (hp : pc + 3 = pc')
    (hy : x.toInt < 0 → Go W Q ds k n pt Ls st) (hn : 0 ≤ x.toInt → Go W Q ds k n pc' Ls st) : Go W Q ds k n pc Ls (.int x :: st) := by
  by_cases hc : x.toInt < 0
  · exact go_if_lt_t K hd hc ho ht (hy hc)
  · exact go_if_lt_f K hd (by first | exact hc | exact Int.not_lt.mp hc | exact Int.not_le.mp hc | exact Decidable.not_not.mp hc) hp (hn (by first | exact hc | exact Int.not_lt.mp hc | exact Int.not_le.mp hc | exact Decidable.not_not.mp hc))
theorem go_ic_lt_t (K : Ok W B y rm mL ret l Z h0) {o : Int} {x z : Int32} (hd : decode B pc = .ok (.if_icmp .lt o, 3)) (hc : x.toInt < z.toInt) (ho : 0 ≤ (pc : Int) + o) (hp : ((pc : Int) + o).toNat = pc')
    (hr : Go W Q ds k n pc' Ls st) : Go W Q ds k n pc Ls (.int z :: .int x :: st) := go_icY K hd (XT.ii_lt_t (Int32.lt_iff_toInt_lt.mpr hc)) ho hp hr
theorem go_ic_lt_f (K : Ok W B y rm mL ret l Z h0) {o : Int} {x z : Int32} (hd : decode B pc = .ok (.if_icmp .lt o, 3)) (hc : z.toInt ≤ x.toInt) (hp : pc + 3 = pc')
    (hr : Go W Q ds k n pc' Ls st) : Go W Q ds k n pc Ls (.int z :: .int x :: st) := go_icN K hd (XT.ii_lt_f (fun q => absurd (Int32.lt_iff_toInt_lt.mp q) (Int.not_lt.mpr hc))) hp hr
theorem go_ic_lt (K : Ok W B y rm mL ret l Z h0) {o : Int} {x z : Int32} {pt : Nat} (hd : decode B pc = .ok (.if_icmp .lt o, 3)) (ho : 0 ≤ (pc : Int) + o) (ht : ((pc : Int) + o).toNat = pt) (hp : pc + 3 = pc')
    (hy : x.toInt < z.toInt → Go W Q ds k n pt Ls st) (hn : z.toInt ≤ x.toInt → Go W Q ds k n pc' Ls st) : Go W Q ds k n pc Ls (.int z :: .int x :: st) := by
  by_cases hc : x.toInt < z.toInt
  · exact go_ic_lt_t K hd hc ho ht (hy hc)
  · exact go_ic_lt_f K hd (by first | exact hc | exact Int.not_lt.mp hc | exact Int.not_le.mp hc | exact Decidable.not_not.mp hc) hp (hn (by first | exact hc | exact Int.not_lt.mp hc | exact Int.not_le.mp hc | exact Decidable.not_not.mp hc))
theorem go_if_ge_t (K : Ok W B y rm mL ret l Z h0) {o : Int} {x : Int32} (hd : decode B pc = .ok (.ifCond .ge o, 3)) (hc : 0 ≤ x.toInt) (ho : 0 ≤ (pc : Int) + o) (hp : ((pc : Int) + o).toNat = pc')
    (hr : Go W Q ds k n pc' Ls st) : Go W Q ds k n pc Ls (.int x :: st) := go_ifY K hd (XT.i0_ge_t (fun q => absurd (Int32.lt_iff_toInt_lt.mp q) (Int.not_lt.mpr hc))) ho hp hr
theorem go_if_ge_f (K : Ok W B y rm mL ret l Z h0) {o : Int} {x : Int32} (hd : decode B pc = .ok (.ifCond .ge o, 3)) (hc : x.toInt < 0) (hp : pc + 3 = pc')
    (hr : Go W Q ds k n pc' Ls st) : Go W Q ds k n pc Ls (.int x :: st) := go_ifN K hd (XT.i0_ge_f (Int32.lt_iff_toInt_lt.mpr hc)) hp hr
theorem go_if_ge (K : Ok W B y rm mL ret l Z h0) {o : Int} {x : Int32} {pt : Nat} (hd : decode B pc = .ok (.ifCond .ge o, 3)) (ho : 0 ≤ (pc : Int) + o) (ht : ((pc : Int) + o).toNat = pt) (hp : pc + 3 = pc')
    (hy : 0 ≤ x.toInt → Go W Q ds k n pt Ls st) (hn : x.toInt < 0 → Go W Q ds k n pc' Ls st) : Go W Q ds k n pc Ls (.int x :: st) := by
  by_cases hc : 0 ≤ x.toInt
  · exact go_if_ge_t K hd hc ho ht (hy hc)
  · exact go_if_ge_f K hd (by first | exact hc | exact Int.not_lt.mp hc | exact Int.not_le.mp hc | exact Decidable.not_not.mp hc) hp (hn (by first | exact hc | exact Int.not_lt.mp hc | exact Int.not_le.mp hc | exact Decidable.not_not.mp hc))
theorem go_ic_ge_t (K : Ok W B y rm mL ret l Z h0) {o : Int} {x z : Int32} (hd : decode B pc = .ok (.if_icmp .ge o, 3)) (hc : z.toInt ≤ x.toInt) (ho : 0 ≤ (pc : Int) + o) (hp : ((pc : Int) + o).toNat = pc')
    (hr : Go W Q ds k n pc' Ls st) : Go W Q ds k n pc Ls (.int z :: .int x :: st) := go_icY K hd (XT.ii_ge_t (fun q => absurd (Int32.lt_iff_toInt_lt.mp q) (Int.not_lt.mpr hc))) ho hp hr
theorem go_ic_ge_f (K : Ok W B y rm mL ret l Z h0) {o : Int} {x z : Int32} (hd : decode B pc = .ok (.if_icmp .ge o, 3)) (hc : x.toInt < z.toInt) (hp : pc + 3 = pc')
    (hr : Go W Q ds k n pc' Ls st) : Go W Q ds k n pc Ls (.int z :: .int x :: st) := go_icN K hd (XT.ii_ge_f (Int32.lt_iff_toInt_lt.mpr hc)) hp hr
theorem go_ic_ge (K : Ok W B y rm mL ret l Z h0) {o : Int} {x z : Int32} {pt : Nat} (hd : decode B pc = .ok (.if_icmp .ge o, 3)) (ho : 0 ≤ (pc : Int) + o) (ht : ((pc : Int) + o).toNat = pt) (hp : pc + 3 = pc')
    (hy : z.toInt ≤ x.toInt → Go W Q ds k n pt Ls st) (hn : x.toInt < z.toInt → Go W Q ds k n pc' Ls st) : Go W Q ds k n pc Ls (.int z :: .int x :: st) := by
  by_cases hc : z.toInt ≤ x.toInt
  · exact go_ic_ge_t K hd hc ho ht (hy hc)
  · exact go_ic_ge_f K hd (by first | exact hc | exact Int.not_lt.mp hc | exact Int.not_le.mp hc | exact Decidable.not_not.mp hc) hp (hn (by first | exact hc | exact Int.not_lt.mp hc | exact Int.not_le.mp hc | exact Decidable.not_not.mp hc))
theorem go_if_gt_t (K : Ok W B y rm mL ret l Z h0) {o : Int} {x : Int32} (hd : decode B pc = .ok (.ifCond .gt o, 3)) (hc : 0 < x.toInt) (ho : 0 ≤ (pc : Int) + o) (hp : ((pc : Int) + o).toNat = pc')
    (hr : Go W Q ds k n pc' Ls st) : Go W Q ds k n pc Ls (.int x :: st) := go_ifY K hd (XT.i0_gt_t (Int32.lt_iff_toInt_lt.mpr hc)) ho hp hr
theorem go_if_gt_f (K : Ok W B y rm mL ret l Z h0) {o : Int} {x : Int32} (hd : decode B pc = .ok (.ifCond .gt o, 3)) (hc : x.toInt ≤ 0) (hp : pc + 3 = pc')
    (hr : Go W Q ds k n pc' Ls st) : Go W Q ds k n pc Ls (.int x :: st) := go_ifN K hd (XT.i0_gt_f (fun q => absurd (Int32.lt_iff_toInt_lt.mp q) (Int.not_lt.mpr hc))) hp hr
theorem go_if_gt (K : Ok W B y rm mL ret l Z h0) {o : Int} {x : Int32} {pt : Nat} (hd : decode B pc = .ok (.ifCond .gt o, 3)) (ho : 0 ≤ (pc : Int) + o) (ht : ((pc : Int) + o).toNat = pt) (hp : pc + 3 = pc')
    (hy : 0 < x.toInt → Go W Q ds k n pt Ls st) (hn : x.toInt ≤ 0 → Go W Q ds k n pc' Ls st) : Go W Q ds k n pc Ls (.int x :: st) := by
  by_cases hc : 0 < x.toInt
  · exact go_if_gt_t K hd hc ho ht (hy hc)
  · exact go_if_gt_f K hd (by first | exact hc | exact Int.not_lt.mp hc | exact Int.not_le.mp hc | exact Decidable.not_not.mp hc) hp (hn (by first | exact hc | exact Int.not_lt.mp hc | exact Int.not_le.mp hc | exact Decidable.not_not.mp hc))
theorem go_ic_gt_t (K : Ok W B y rm mL ret l Z h0) {o : Int} {x z : Int32} (hd : decode B pc = .ok (.if_icmp .gt o, 3)) (hc : z.toInt < x.toInt) (ho : 0 ≤ (pc : Int) + o) (hp : ((pc : Int) + o).toNat = pc')
    (hr : Go W Q ds k n pc' Ls st) : Go W Q ds k n pc Ls (.int z :: .int x :: st) := go_icY K hd (XT.ii_gt_t (Int32.lt_iff_toInt_lt.mpr hc)) ho hp hr
theorem go_ic_gt_f (K : Ok W B y rm mL ret l Z h0) {o : Int} {x z : Int32} (hd : decode B pc = .ok (.if_icmp .gt o, 3)) (hc : x.toInt ≤ z.toInt) (hp : pc + 3 = pc')
    (hr : Go W Q ds k n pc' Ls st) : Go W Q ds k n pc Ls (.int z :: .int x :: st) := go_icN K hd (XT.ii_gt_f (fun q => absurd (Int32.lt_iff_toInt_lt.mp q) (Int.not_lt.mpr hc))) hp hr
theorem go_ic_gt (K : Ok W B y rm mL ret l Z h0) {o : Int} {x z : Int32} {pt : Nat} (hd : decode B pc = .ok (.if_icmp .gt o, 3)) (ho : 0 ≤ (pc : Int) + o) (ht : ((pc : Int) + o).toNat = pt) (hp : pc + 3 = pc')
    (hy : z.toInt < x.toInt → Go W Q ds k n pt Ls st) (hn : x.toInt ≤ z.toInt → Go W Q ds k n pc' Ls st) : Go W Q ds k n pc Ls (.int z :: .int x :: st) := by
  by_cases hc : z.toInt < x.toInt
  · exact go_ic_gt_t K hd hc ho ht (hy hc)
  · exact go_ic_gt_f K hd (by first | exact hc | exact Int.not_lt.mp hc | exact Int.not_le.mp hc | exact Decidable.not_not.mp hc) hp (hn (by first | exact hc | exact Int.not_lt.mp hc | exact Int.not_le.mp hc | exact Decidable.not_not.mp hc))
theorem go_if_le_t (K : Ok W B y rm mL ret l Z h0) {o : Int} {x : Int32} (hd : decode B pc = .ok (.ifCond .le o, 3)) (hc : x.toInt ≤ 0) (ho : 0 ≤ (pc : Int) + o) (hp : ((pc : Int) + o).toNat = pc')
    (hr : Go W Q ds k n pc' Ls st) : Go W Q ds k n pc Ls (.int x :: st) := go_ifY K hd (XT.i0_le_t (fun q => absurd (Int32.lt_iff_toInt_lt.mp q) (Int.not_lt.mpr hc))) ho hp hr
theorem go_if_le_f (K : Ok W B y rm mL ret l Z h0) {o : Int} {x : Int32} (hd : decode B pc = .ok (.ifCond .le o, 3)) (hc : 0 < x.toInt) (hp : pc + 3 = pc')
    (hr : Go W Q ds k n pc' Ls st) : Go W Q ds k n pc Ls (.int x :: st) := go_ifN K hd (XT.i0_le_f (Int32.lt_iff_toInt_lt.mpr hc)) hp hr
theorem go_if_le (K : Ok W B y rm mL ret l Z h0) {o : Int} {x : Int32} {pt : Nat} (hd : decode B pc = .ok (.ifCond .le o, 3)) (ho : 0 ≤ (pc : Int) + o) (ht : ((pc : Int) + o).toNat = pt) (hp : pc + 3 = pc')
    (hy : x.toInt ≤ 0 → Go W Q ds k n pt Ls st) (hn : 0 < x.toInt → Go W Q ds k n pc' Ls st) : Go W Q ds k n pc Ls (.int x :: st) := by
  by_cases hc : x.toInt ≤ 0
  · exact go_if_le_t K hd hc ho ht (hy hc)
  · exact go_if_le_f K hd (by first | exact hc | exact Int.not_lt.mp hc | exact Int.not_le.mp hc | exact Decidable.not_not.mp hc) hp (hn (by first | exact hc | exact Int.not_lt.mp hc | exact Int.not_le.mp hc | exact Decidable.not_not.mp hc))
theorem go_ic_le_t (K : Ok W B y rm mL ret l Z h0) {o : Int} {x z : Int32} (hd : decode B pc = .ok (.if_icmp .le o, 3)) (hc : x.toInt ≤ z.toInt) (ho : 0 ≤ (pc : Int) + o) (hp : ((pc : Int) + o).toNat = pc')
    (hr : Go W Q ds k n pc' Ls st) : Go W Q ds k n pc Ls (.int z :: .int x :: st) := go_icY K hd (XT.ii_le_t (fun q => absurd (Int32.lt_iff_toInt_lt.mp q) (Int.not_lt.mpr hc))) ho hp hr
theorem go_ic_le_f (K : Ok W B y rm mL ret l Z h0) {o : Int} {x z : Int32} (hd : decode B pc = .ok (.if_icmp .le o, 3)) (hc : z.toInt < x.toInt) (hp : pc + 3 = pc')
    (hr : Go W Q ds k n pc' Ls st) : Go W Q ds k n pc Ls (.int z :: .int x :: st) := go_icN K hd (XT.ii_le_f (Int32.lt_iff_toInt_lt.mpr hc)) hp hr
theorem go_ic_le (K : Ok W B y rm mL ret l Z h0) {o : Int} {x z : Int32} {pt : Nat} (hd : decode B pc = .ok (.if_icmp .le o, 3)) (ho : 0 ≤ (pc : Int) + o) (ht : ((pc : Int) + o).toNat = pt) (hp : pc + 3 = pc')
    (hy : x.toInt ≤ z.toInt → Go W Q ds k n pt Ls st) (hn : z.toInt < x.toInt → Go W Q ds k n pc' Ls st) : Go W Q ds k n pc Ls (.int z :: .int x :: st) := by
  by_cases hc : x.toInt ≤ z.toInt
  · exact go_ic_le_t K hd hc ho ht (hy hc)
  · exact go_ic_le_f K hd (by first | exact hc | exact Int.not_lt.mp hc | exact Int.not_le.mp hc | exact Decidable.not_not.mp hc) hp (hn (by first | exact hc | exact Int.not_lt.mp hc | exact Int.not_le.mp hc | exact Decidable.not_not.mp hc))
theorem go_ll_eq_t (K : Ok W B y rm mL ret l Z h0) {o : Int} {x z : Int64} {pm : Nat} (hd : decode B pc = .ok (.lcmp, 1)) (hm : pc + 1 = pm) (hd' : decode B pm = .ok (.ifCond .eq o, 3)) (hc : x = z) (ho : 0 ≤ (pm : Int) + o) (hp : ((pm : Int) + o).toNat = pc')
    (hr : Go W Q ds k n pc' Ls st) : Go W Q ds k n pc Ls (.long z :: .long x :: st) := go_lcmp K hd hm (go_ifY K hd' (XT.ll_eq_t hc) ho hp hr)
theorem go_ll_eq_f (K : Ok W B y rm mL ret l Z h0) {o : Int} {x z : Int64} {pm : Nat} (hd : decode B pc = .ok (.lcmp, 1)) (hm : pc + 1 = pm) (hd' : decode B pm = .ok (.ifCond .eq o, 3)) (hc : x ≠ z) (hp : pm + 3 = pc')
    (hr : Go W Q ds k n pc' Ls st) : Go W Q ds k n pc Ls (.long z :: .long x :: st) := go_lcmp K hd hm (go_ifN K hd' (XT.ll_eq_f hc) hp hr)
theorem go_ll_eq (K : Ok W B y rm mL ret l Z h0) {o : Int} {x z : Int64} {pm pt : Nat} (hd : decode B pc = .ok (.lcmp, 1)) (hm : pc + 1 = pm) (hd' : decode B pm = .ok (.ifCond .eq o, 3)) (ho : 0 ≤ (pm : Int) + o) (ht : ((pm : Int) + o).toNat = pt) (hp : pm + 3 = pc')
    (hy : x = z → Go W Q ds k n pt Ls st) (hn : x ≠ z → Go W Q ds k n pc' Ls st) : Go W Q ds k n pc Ls (.long z :: .long x :: st) := by
  by_cases hc : x = z
  · exact go_ll_eq_t K hd hm hd' hc ho ht (hy hc)
  · exact go_ll_eq_f K hd hm hd' (by first | exact hc | exact Int.not_lt.mp hc | exact Int.not_le.mp hc | exact Decidable.not_not.mp hc) hp (hn (by first | exact hc | exact Int.not_lt.mp hc | exact Int.not_le.mp hc | exact Decidable.not_not.mp hc))
theorem go_ll_ne_t (K : Ok W B y rm mL ret l Z h0) {o : Int} {x z : Int64} {pm : Nat} (hd : decode B pc = .ok (.lcmp, 1)) (hm : pc + 1 = pm) (hd' : decode B pm = .ok (.ifCond .ne o, 3)) (hc : x ≠ z) (ho : 0 ≤ (pm : Int) + o) (hp : ((pm : Int) + o).toNat = pc')
    (hr : Go W Q ds k n pc' Ls st) : Go W Q ds k n pc Ls (.long z :: .long x :: st) := go_lcmp K hd hm (go_ifY K hd' (XT.ll_ne_t hc) ho hp hr)
theorem go_ll_ne_f (K : Ok W B y rm mL ret l Z h0) {o : Int} {x z : Int64} {pm : Nat} (hd : decode B pc = .ok (.lcmp, 1)) (hm : pc + 1 = pm) (hd' : decode B pm = .ok (.ifCond .ne o, 3)) (hc : x = z) (hp : pm + 3 = pc')
    (hr : Go W Q ds k n pc' Ls st) : Go W Q ds k n pc Ls (.long z :: .long x :: st) := go_lcmp K hd hm (go_ifN K hd' (XT.ll_ne_f hc) hp hr)
theorem go_ll_ne (K : Ok W B y rm mL ret l Z h0) {o : Int} {x z : Int64} {pm pt : Nat} (hd : decode B pc = .ok (.lcmp, 1)) (hm : pc + 1 = pm) (hd' : decode B pm = .ok (.ifCond .ne o, 3)) (ho : 0 ≤ (pm : Int) + o) (ht : ((pm : Int) + o).toNat = pt) (hp : pm + 3 = pc')
    (hy : x ≠ z → Go W Q ds k n pt Ls st) (hn : x = z → Go W Q ds k n pc' Ls st) : Go W Q ds k n pc Ls (.long z :: .long x :: st) := by
  by_cases hc : x ≠ z
  · exact go_ll_ne_t K hd hm hd' hc ho ht (hy hc)
  · exact go_ll_ne_f K hd hm hd' (by first | exact hc | exact Int.not_lt.mp hc | exact Int.not_le.mp hc | exact Decidable.not_not.mp hc) hp (hn (by first | exact hc | exact Int.not_lt.mp hc | exact Int.not_le.mp hc | exact Decidable.not_not.mp hc))
theorem go_ll_lt_t (K : Ok W B y rm mL ret l Z h0) {o : Int} {x z : Int64} {pm : Nat} (hd : decode B pc = .ok (.lcmp, 1)) (hm : pc + 1 = pm) (hd' : decode B pm = .ok (.ifCond .lt o, 3)) (hc : x.toInt < z.toInt) (ho : 0 ≤ (pm : Int) + o) (hp : ((pm : Int) + o).toNat = pc')
    (hr : Go W Q ds k n pc' Ls st) : Go W Q ds k n pc Ls (.long z :: .long x :: st) := go_lcmp K hd hm (go_ifY K hd' (XT.ll_lt_t (Int64.lt_iff_toInt_lt.mpr hc)) ho hp hr)
theorem go_ll_lt_f (K : Ok W B y rm mL ret l Z h0) {o : Int} {x z : Int64} {pm : Nat} (hd : decode B pc = .ok (.lcmp, 1)) (hm : pc + 1 = pm) (hd' : decode B pm = .ok (.ifCond .lt o, 3)) (hc : z.toInt ≤ x.toInt) (hp : pm + 3 = pc')
    (hr : Go W Q ds k n pc' Ls st) : Go W Q ds k n pc Ls (.long z :: .long x :: st) := go_lcmp K hd hm (go_ifN K hd' (XT.ll_lt_f (fun q => absurd (Int64.lt_iff_toInt_lt.mp q) (Int.not_lt.mpr hc))) hp hr)
theorem go_ll_lt (K : Ok W B y rm mL ret l Z h0) {o : Int} {x z : Int64} {pm pt : Nat} (hd : decode B pc = .ok (.lcmp, 1)) (hm : pc + 1 = pm) (hd' : decode B pm = .ok (.ifCond .lt o, 3)) (ho : 0 ≤ (pm : Int) + o) (ht : ((pm : Int) + o).toNat = pt) (hp : pm + 3 = pc')
    (hy : x.toInt < z.toInt → Go W Q ds k n pt Ls st) (hn : z.toInt ≤ x.toInt → Go W Q ds k n pc' Ls st) : Go W Q ds k n pc Ls (.long z :: .long x :: st) := by
  by_cases hc : x.toInt < z.toInt
  · exact go_ll_lt_t K hd hm hd' hc ho ht (hy hc)
  · exact go_ll_lt_f K hd hm hd' (by first | exact hc | exact Int.not_lt.mp hc | exact Int.not_le.mp hc | exact Decidable.not_not.mp hc) hp (hn (by first | exact hc | exact Int.not_lt.mp hc | exact Int.not_le.mp hc | exact Decidable.not_not.mp hc))
theorem go_ll_ge_t (K : Ok W B y rm mL ret l Z h0) {o : Int} {x z : Int64} {pm : Nat} (hd : decode B pc = .ok (.lcmp, 1)) (hm : pc + 1 = pm) (hd' : decode B pm = .ok (.ifCond .ge o, 3)) (hc : z.toInt ≤ x.toInt) (ho : 0 ≤ (pm : Int) + o) (hp : ((pm : Int) + o).toNat = pc')
    (hr : Go W Q ds k n pc' Ls st) : Go W Q ds k n pc Ls (.long z :: .long x :: st) := go_lcmp K hd hm (go_ifY K hd' (XT.ll_ge_t (fun q => absurd (Int64.lt_iff_toInt_lt.mp q) (Int.not_lt.mpr hc))) ho hp hr)
theorem go_ll_ge_f (K : Ok W B y rm mL ret l Z h0) {o : Int} {x z : Int64} {pm : Nat} (hd : decode B pc = .ok (.lcmp, 1)) (hm : pc + 1 = pm) (hd' : decode B pm = .ok (.ifCond .ge o, 3)) (hc : x.toInt < z.toInt) (hp : pm + 3 = pc')
    (hr : Go W Q ds k n pc' Ls st) : Go W Q ds k n pc Ls (.long z :: .long x :: st) := go_lcmp K hd hm (go_ifN K hd' (XT.ll_ge_f (Int64.lt_iff_toInt_lt.mpr hc)) hp hr)
theorem go_ll_ge (K : Ok W B y rm mL ret l Z h0) {o : Int} {x z : Int64} {pm pt : Nat} (hd : decode B pc = .ok (.lcmp, 1)) (hm : pc + 1 = pm) (hd' : decode B pm = .ok (.ifCond .ge o, 3)) (ho : 0 ≤ (pm : Int) + o) (ht : ((pm : Int) + o).toNat = pt) (hp : pm + 3 = pc')
    (hy : z.toInt ≤ x.toInt → Go W Q ds k n pt Ls st) (hn : x.toInt < z.toInt → Go W Q ds k n pc' Ls st) : Go W Q ds k n pc Ls (.long z :: .long x :: st) := by
  by_cases hc : z.toInt ≤ x.toInt
  · exact go_ll_ge_t K hd hm hd' hc ho ht (hy hc)
  · exact go_ll_ge_f K hd hm hd' (by first | exact hc | exact Int.not_lt.mp hc | exact Int.not_le.mp hc | exact Decidable.not_not.mp hc) hp (hn (by first | exact hc | exact Int.not_lt.mp hc | exact Int.not_le.mp hc | exact Decidable.not_not.mp hc))
theorem go_ll_gt_t (K : Ok W B y rm mL ret l Z h0) {o : Int} {x z : Int64} {pm : Nat} (hd : decode B pc = .ok (.lcmp, 1)) (hm : pc + 1 = pm) (hd' : decode B pm = .ok (.ifCond .gt o, 3)) (hc : z.toInt < x.toInt) (ho : 0 ≤ (pm : Int) + o) (hp : ((pm : Int) + o).toNat = pc')
    (hr : Go W Q ds k n pc' Ls st) : Go W Q ds k n pc Ls (.long z :: .long x :: st) := go_lcmp K hd hm (go_ifY K hd' (XT.ll_gt_t (Int64.lt_iff_toInt_lt.mpr hc)) ho hp hr)
theorem go_ll_gt_f (K : Ok W B y rm mL ret l Z h0) {o : Int} {x z : Int64} {pm : Nat} (hd : decode B pc = .ok (.lcmp, 1)) (hm : pc + 1 = pm) (hd' : decode B pm = .ok (.ifCond .gt o, 3)) (hc : x.toInt ≤ z.toInt) (hp : pm + 3 = pc')
    (hr : Go W Q ds k n pc' Ls st) : Go W Q ds k n pc Ls (.long z :: .long x :: st) := go_lcmp K hd hm (go_ifN K hd' (XT.ll_gt_f (fun q => absurd (Int64.lt_iff_toInt_lt.mp q) (Int.not_lt.mpr hc))) hp hr)
theorem go_ll_gt (K : Ok W B y rm mL ret l Z h0) {o : Int} {x z : Int64} {pm pt : Nat} (hd : decode B pc = .ok (.lcmp, 1)) (hm : pc + 1 = pm) (hd' : decode B pm = .ok (.ifCond .gt o, 3)) (ho : 0 ≤ (pm : Int) + o) (ht : ((pm : Int) + o).toNat = pt) (hp : pm + 3 = pc')
    (hy : z.toInt < x.toInt → Go W Q ds k n pt Ls st) (hn : x.toInt ≤ z.toInt → Go W Q ds k n pc' Ls st) : Go W Q ds k n pc Ls (.long z :: .long x :: st) := by
  by_cases hc : z.toInt < x.toInt
  · exact go_ll_gt_t K hd hm hd' hc ho ht (hy hc)
  · exact go_ll_gt_f K hd hm hd' (by first | exact hc | exact Int.not_lt.mp hc | exact Int.not_le.mp hc | exact Decidable.not_not.mp hc) hp (hn (by first | exact hc | exact Int.not_lt.mp hc | exact Int.not_le.mp hc | exact Decidable.not_not.mp hc))
theorem go_ll_le_t (K : Ok W B y rm mL ret l Z h0) {o : Int} {x z : Int64} {pm : Nat} (hd : decode B pc = .ok (.lcmp, 1)) (hm : pc + 1 = pm) (hd' : decode B pm = .ok (.ifCond .le o, 3)) (hc : x.toInt ≤ z.toInt) (ho : 0 ≤ (pm : Int) + o) (hp : ((pm : Int) + o).toNat = pc')
    (hr : Go W Q ds k n pc' Ls st) : Go W Q ds k n pc Ls (.long z :: .long x :: st) := go_lcmp K hd hm (go_ifY K hd' (XT.ll_le_t (fun q => absurd (Int64.lt_iff_toInt_lt.mp q) (Int.not_lt.mpr hc))) ho hp hr)
theorem go_ll_le_f (K : Ok W B y rm mL ret l Z h0) {o : Int} {x z : Int64} {pm : Nat} (hd : decode B pc = .ok (.lcmp, 1)) (hm : pc + 1 = pm) (hd' : decode B pm = .ok (.ifCond .le o, 3)) (hc : z.toInt < x.toInt) (hp : pm + 3 = pc')
    (hr : Go W Q ds k n pc' Ls st) : Go W Q ds k n pc Ls (.long z :: .long x :: st) := go_lcmp K hd hm (go_ifN K hd' (XT.ll_le_f (Int64.lt_iff_toInt_lt.mpr hc)) hp hr)
theorem go_ll_le (K : Ok W B y rm mL ret l Z h0) {o : Int} {x z : Int64} {pm pt : Nat} (hd : decode B pc = .ok (.lcmp, 1)) (hm : pc + 1 = pm) (hd' : decode B pm = .ok (.ifCond .le o, 3)) (ho : 0 ≤ (pm : Int) + o) (ht : ((pm : Int) + o).toNat = pt) (hp : pm + 3 = pc')
    (hy : x.toInt ≤ z.toInt → Go W Q ds k n pt Ls st) (hn : z.toInt < x.toInt → Go W Q ds k n pc' Ls st) : Go W Q ds k n pc Ls (.long z :: .long x :: st) := by
  by_cases hc : x.toInt ≤ z.toInt
  · exact go_ll_le_t K hd hm hd' hc ho ht (hy hc)
  · exact go_ll_le_f K hd hm hd' (by first | exact hc | exact Int.not_lt.mp hc | exact Int.not_le.mp hc | exact Decidable.not_not.mp hc) hp (hn (by first | exact hc | exact Int.not_lt.mp hc | exact Int.not_le.mp hc | exact Decidable.not_not.mp hc))

/-! null tests, references compared -/
theorem go_ifnull_r (K : Ok W B y rm mL ret l Z h0) {o : Int} {a : Nat} (hd : decode B pc = .ok (.ifnull o, 3)) (hp : pc + 3 = pc') (hr : Go W Q ds k n pc' Ls st) : Go W Q ds k n pc Ls (.ref a :: st) := by
  subst hp
  exact go_of K (fun hx hby hown hZ X t h => XS.ifnullNo X.here hx rfl (hb hby hd) rfl h) hr
theorem go_ifnonnull_r (K : Ok W B y rm mL ret l Z h0) {o : Int} {a : Nat} (hd : decode B pc = .ok (.ifnonnull o, 3)) (ho : 0 ≤ (pc : Int) + o) (hp : ((pc : Int) + o).toNat = pc') (hr : Go W Q ds k n pc' Ls st) : Go W Q ds k n pc Ls (.ref a :: st) :=
  go_of K (fun hx hby hown hZ X t h => XT.ifnonnullYes X.here hx rfl rfl (hb hby hd) rfl ho hp h) hr
theorem go_acY (K : Ok W B y rm mL ret l Z h0) {o : Int} {cd : ClassFile.ACond} {a b : Value} (hd : decode B pc = .ok (.if_acmp cd o, 3)) (h1 : a.isRef = true) (h2 : b.isRef = true) (hc : XT.acmp cd a b = true) (ho : 0 ≤ (pc : Int) + o) (hp : ((pc : Int) + o).toNat = pc')
    (hr : Go W Q ds k n pc' Ls st) : Go W Q ds k n pc Ls (b :: a :: st) :=
  go_of K (fun hx hby hown hZ X t h => XT.acmpYes X.here hx rfl rfl (hb hby hd) rfl h1 h2 hc ho hp h) hr
theorem go_acN (K : Ok W B y rm mL ret l Z h0) {o : Int} {cd : ClassFile.ACond} {a b : Value} (hd : decode B pc = .ok (.if_acmp cd o, 3)) (h1 : a.isRef = true) (h2 : b.isRef = true) (hc : XT.acmp cd a b = false) (hp : pc + 3 = pc')
    (hr : Go W Q ds k n pc' Ls st) : Go W Q ds k n pc Ls (b :: a :: st) := by
  subst hp
  exact go_of K (fun hx hby hown hZ X t h => XT.acmpNo X.here hx rfl (hb hby hd) rfl h1 h2 hc h) hr
/-! returns -/
theorem go_done (K : Ok W B y rm mL ret l Z h0) {v : Option Value} (hv : ret = none → v = none) (hk : k ≤ rm.cells) (hn : n ≤ rm.slots)
    (f : ∀ {p : Program} {l : Launch} {e : Env} {R : Room} {s : State} {m : MethodId} {args : Array Value} {below : List Frame} {meth : Method} {c : Code} {T : State} {L : List Loc} {fs : List Frame}, p.tables.exec = Jvm.exec → c.code = B → meth.sig.returnType = ret →
      Stand p l e R s m args below meth c T L k n → (∀ (f : JFrame) (acts : List Action), f.method = m → f.locked = none → f.entered = [] → (doReturn e (T.setTop f) acts v).1 = T.setFrames fs) → Steps p.tables e below (T.setTop (mkF m pc Ls st)) (T.setFrames fs))
    (hq : Q v ds) : Go W Q ds k n pc Ls st := by
  obtain ⟨p, l, e, R, s, m, args, below, meth, c, Z, h0⟩ := W
  obtain ⟨k1, k2, k3, k4, k5, k6, k7, k8, rfl, rfl, rfl, rfl⟩ := K
  intro T L N X H
  obtain ⟨fs, hr, hrun, hended, hW, hsame⟩ := X.leave (v := v) (fun h => hv (k6.symm.trans h)) k7
  exact ⟨_, v, f k1 k3 k6 X hr, hrun, hended, L, ds, N, H, hq, ⟨_, rfl⟩, hW, hsame.mono hk hn⟩
theorem go_ret (K : Ok W B y rm mL none l Z h0) (hd : decode B pc = .ok (.return_, 1)) (hk : k ≤ rm.cells) (hn : n ≤ rm.slots) (hq : Q none ds) : Go W Q ds k n pc Ls [] :=
  go_done K (v := none) (fun _ => rfl) hk hn (fun hx hby hret X hr => X.returnOut hx hret (hb hby hd) hr) hq
theorem go_iret (K : Ok W B y rm mL (some .int) l Z h0) {z : Int32} (hd : decode B pc = .ok (.ireturn, 1)) (hk : k ≤ rm.cells) (hn : n ≤ rm.slots) (hq : Q (some (.int z)) ds) : Go W Q ds k n pc Ls (.int z :: st) :=
  go_done K (v := some (.int z)) (fun h => by cases h) hk hn (fun hx hby hret X hr => retOut X hx hret rfl (Or.inl ⟨rfl, Or.inl rfl, _, rfl⟩) (hb hby hd) hr) hq
theorem go_zret (K : Ok W B y rm mL (some .boolean) l Z h0) {z : Int32} (hd : decode B pc = .ok (.ireturn, 1)) (hk : k ≤ rm.cells) (hn : n ≤ rm.slots) (hz : z = 0 ∨ z = 1) (hq : Q (some (.int z)) ds) : Go W Q ds k n pc Ls (.int z :: st) :=
  go_done K (v := some (.int z)) (fun h => by cases h) hk hn (fun hx hby hret X hr => retOut X hx hret (by rcases hz with rfl | rfl <;> rfl) (Or.inl ⟨rfl, Or.inr (Or.inl rfl), _, rfl⟩) (hb hby hd) hr) hq
theorem go_lret (K : Ok W B y rm mL (some .long) l Z h0) {z : Int64} (hd : decode B pc = .ok (.lreturn, 1)) (hk : k ≤ rm.cells) (hn : n ≤ rm.slots) (hq : Q (some (.long z)) ds) : Go W Q ds k n pc Ls (.long z :: st) :=
  go_done K (v := some (.long z)) (fun h => by cases h) hk hn (fun hx hby hret X hr => retOut X hx hret rfl (Or.inr (Or.inl ⟨rfl, rfl, _, rfl⟩)) (hb hby hd) hr) hq
theorem go_aret {t : FieldType} (K : Ok W B y rm mL (some t) l Z h0) {a : Nat} (ht : t.isReference = true) (hd : decode B pc = .ok (.areturn, 1)) (hk : k ≤ rm.cells) (hn : n ≤ rm.slots) (hq : Q (some (.ref a)) ds) : Go W Q ds k n pc Ls (.ref a :: st) :=
  go_done K (v := some (.ref a)) (fun h => by cases h) hk hn (fun hx hby hret X hr => retOut X hx hret (by cases t <;> first | rfl | cases ht) (Or.inr (Or.inr (Or.inr (Or.inr ⟨rfl, ht, rfl⟩)))) (hb hby hd) hr) hq
/-! arrays -/
theorem inb {vs : List Value} {c : Cell} {j : Int32} {m : Nat} (S : c.slots = vs.toArray) (hj : j.toInt = (m : Int)) (hm : m < vs.length) : ¬ (j < 0 ∨ c.slots.size ≤ j.toNatClampNeg) := by
  have e : j.toNatClampNeg = m := by simp [Int32.toNatClampNeg, hj]
  rw [e, S, List.size_toArray, Int32.lt_iff_toInt_lt, hj]
  have z : (0 : Int32).toInt = 0 := rfl
  rw [z]; omega
theorem go_alen (K : Ok W B y rm mL ret l Z h0) {i a : Nat} {ty : FieldType} {vs : List Value} {z : Int32} (ha : ds[i]? = some (a, .inl (ty, vs))) (hd : decode B pc = .ok (.arraylength, 1)) (hz : vs.length.toInt32 = z) (hp : pc + 1 = pc')
    (hr : Go W Q ds k n pc' Ls (.int z :: st)) : Go W Q ds k n pc Ls (.ref a :: st) := by
  obtain ⟨p, l, e, R, s, m, args, below, meth, c, Z, h0⟩ := W
  obtain ⟨k1, k2, k3, k4, k5, k6, k7, k8, rfl, rfl, rfl, rfl⟩ := K
  intro T L N X H
  obtain ⟨s₂, v, h1, rest⟩ := hr T L N X H
  obtain ⟨-, cl, A, S, -⟩ := H.2.1 _ _ ha
  subst hp hz
  refine ⟨s₂, v, X.arraylength k1 A.1 (State.isArrayOf_alike k2.alike A.2.1) (g := mkF m pc Ls (.ref a :: st)) rfl rfl (hb k3 hd) _ ?_, rest⟩
  have q : cl.slots.size = vs.length := by rw [S, List.size_toArray]
  rw [q]; exact h1

theorem go_iaload (K : Ok W B y rm mL ret l Z h0) {i a m : Nat} {xs : List Int32} {j : Int32} {x : Int32} (ha : ds[i]? = some (a, ia xs)) (hd : decode B pc = .ok (.iaload, 1)) (hj : j.toInt = (m : Int)) (hx : xs[m]? = some x) (hp : pc + 1 = pc')
    (hr : Go W Q ds k n pc' Ls (.int x :: st)) : Go W Q ds k n pc Ls (.int j :: .ref a :: st) := by
  obtain ⟨p, l, e, R, s, mm, args, below, meth, c, Z, h0⟩ := W
  obtain ⟨k1, k2, k3, k4, k5, k6, k7, k8, rfl, rfl, rfl, rfl⟩ := K
  intro T L N X H
  obtain ⟨s₂, v, h1, rest⟩ := hr T L N X H
  obtain ⟨-, cl, A, S, -⟩ := H.2.1 _ _ ha
  subst hp
  have hm : m < xs.length := (List.getElem?_eq_some_iff.mp hx).1
  have e1 : j.toNatClampNeg = m := by simp [Int32.toNatClampNeg, hj]
  refine ⟨s₂, v, X.iaload k1 A.1 (State.isArrayOf_alike k2.alike A.2.1) A.2.2 (inb S hj (by simpa using hm)) (v := .int x) ?_ (g := mkF mm pc Ls (.int j :: .ref a :: st)) rfl rfl (hb k3 hd) _ h1, rest⟩
  rw [e1, S]; simp [hx]
theorem go_laload (K : Ok W B y rm mL ret l Z h0) {i a m : Nat} {xs : List Int64} {j : Int32} {x : Int64} (ha : ds[i]? = some (a, la xs)) (hd : decode B pc = .ok (.laload, 1)) (hj : j.toInt = (m : Int)) (hx : xs[m]? = some x) (hp : pc + 1 = pc')
    (hr : Go W Q ds k n pc' Ls (.long x :: st)) : Go W Q ds k n pc Ls (.int j :: .ref a :: st) := by
  obtain ⟨p, l, e, R, s, mm, args, below, meth, c, Z, h0⟩ := W
  obtain ⟨k1, k2, k3, k4, k5, k6, k7, k8, rfl, rfl, rfl, rfl⟩ := K
  intro T L N X H
  obtain ⟨s₂, v, h1, rest⟩ := hr T L N X H
  obtain ⟨-, cl, A, S, -⟩ := H.2.1 _ _ ha
  subst hp
  have hm : m < xs.length := (List.getElem?_eq_some_iff.mp hx).1
  have e1 : j.toNatClampNeg = m := by simp [Int32.toNatClampNeg, hj]
  refine ⟨s₂, v, X.laload k1 A.1 (State.isArrayOf_alike k2.alike A.2.1) A.2.2 (inb S hj (by simpa using hm)) (v := .long x) ?_ (g := mkF mm pc Ls (.int j :: .ref a :: st)) rfl rfl (hb k3 hd) _ h1, rest⟩
  rw [e1, S]; simp [hx]
theorem go_baload (K : Ok W B y rm mL ret l Z h0) {i a m : Nat} {xs : List Int32} {j : Int32} {x : Int32} (ha : ds[i]? = some (a, ba xs)) (hd : decode B pc = .ok (.baload, 1)) (hj : j.toInt = (m : Int)) (hx : xs[m]? = some x) (hp : pc + 1 = pc')
    (hr : Go W Q ds k n pc' Ls (.int x :: st)) : Go W Q ds k n pc Ls (.int j :: .ref a :: st) := by
  obtain ⟨p, l, e, R, s, mm, args, below, meth, c, Z, h0⟩ := W
  obtain ⟨k1, k2, k3, k4, k5, k6, k7, k8, rfl, rfl, rfl, rfl⟩ := K
  intro T L N X H
  obtain ⟨s₂, v, h1, rest⟩ := hr T L N X H
  obtain ⟨-, cl, A, S, -⟩ := H.2.1 _ _ ha
  subst hp
  have hm : m < xs.length := (List.getElem?_eq_some_iff.mp hx).1
  have e1 : j.toNatClampNeg = m := by simp [Int32.toNatClampNeg, hj]
  refine ⟨s₂, v, X.baloadBytes k1 A.1 (State.isArrayOf_alike k2.alike A.2.1) A.2.2 (inb S hj (by simpa using hm)) (v := .int x) ?_ (g := mkF mm pc Ls (.int j :: .ref a :: st)) rfl rfl (hb k3 hd) _ h1, rest⟩
  rw [e1, S]; simp [hx]
theorem go_iastore (K : Ok W B y rm mL ret l Z h0) {i a m : Nat} {xs : List Int32} {j : Int32} {x : Int32} {ds' : Hp} (ha : ds[i]? = some (a, ia xs)) (hd : decode B pc = .ok (.iastore, 1)) (hj : j.toInt = (m : Int)) (hm : m < xs.length) (hp : pc + 1 = pc') (hs : ds.set i (a, ia (xs.set m x)) = ds')
    (hr : Go W Q ds' k n pc' Ls st) : Go W Q ds k n pc Ls (.int x :: .int j :: .ref a :: st) := by
  subst hs hp
  obtain ⟨p, l, e, R, s, mm, args, below, meth, c, Z, h0⟩ := W
  obtain ⟨k1, k2, k3, k4, k5, k6, k7, k8, rfl, rfl, rfl, rfl⟩ := K
  intro T L N X H
  obtain ⟨hge, cl, A, S, EX⟩ := H.2.1 _ _ ha
  have e1 : j.toNatClampNeg = m := by simp [Int32.toNatClampNeg, hj]
  obtain ⟨T', h', X', eT, Wr1, stp⟩ := stI X k1 k2 rfl A (inb S hj (by simpa using hm)) (g := mkF mm pc Ls (.int x :: .int j :: .ref a :: st)) rfl rfl (hb k3 hd)
  rw [e1] at Wr1 X'
  obtain ⟨s₂, v, h1, rest⟩ := hr T' _ (N.snoc X' hge) X' (by
    rw [eT]
    refine H.set ha Wr1 ⟨_, A.same Wr1, ?_, EX.wr Wr1⟩
    simp [Cell.setSlot, S, List.map_set])
  exact ⟨s₂, v, stp _ h1, rest⟩
theorem go_lastore (K : Ok W B y rm mL ret l Z h0) {i a m : Nat} {xs : List Int64} {j : Int32} {x : Int64} {ds' : Hp} (ha : ds[i]? = some (a, la xs)) (hd : decode B pc = .ok (.lastore, 1)) (hj : j.toInt = (m : Int)) (hm : m < xs.length) (hp : pc + 1 = pc') (hs : ds.set i (a, la (xs.set m x)) = ds')
    (hr : Go W Q ds' k n pc' Ls st) : Go W Q ds k n pc Ls (.long x :: .int j :: .ref a :: st) := by
  subst hs hp
  obtain ⟨p, l, e, R, s, mm, args, below, meth, c, Z, h0⟩ := W
  obtain ⟨k1, k2, k3, k4, k5, k6, k7, k8, rfl, rfl, rfl, rfl⟩ := K
  intro T L N X H
  obtain ⟨hge, cl, A, S, EX⟩ := H.2.1 _ _ ha
  have e1 : j.toNatClampNeg = m := by simp [Int32.toNatClampNeg, hj]
  obtain ⟨T', h', X', eT, Wr1, stp⟩ := stJ X k1 k2 rfl A (inb S hj (by simpa using hm)) (g := mkF mm pc Ls (.long x :: .int j :: .ref a :: st)) rfl rfl (hb k3 hd)
  rw [e1] at Wr1 X'
  obtain ⟨s₂, v, h1, rest⟩ := hr T' _ (N.snoc X' hge) X' (by
    rw [eT]
    refine H.set ha Wr1 ⟨_, A.same Wr1, ?_, EX.wr Wr1⟩
    simp [Cell.setSlot, S, List.map_set])
  exact ⟨s₂, v, stp _ h1, rest⟩
theorem go_bastore (K : Ok W B y rm mL ret l Z h0) {i a m : Nat} {xs : List Int32} {j : Int32} {x : Int32} {ds' : Hp} (ha : ds[i]? = some (a, ba xs)) (hd : decode B pc = .ok (.bastore, 1)) (hj : j.toInt = (m : Int)) (hm : m < xs.length) (hp : pc + 1 = pc') (hs : ds.set i (a, ba (xs.set m (nar .byte x))) = ds')
    (hr : Go W Q ds' k n pc' Ls st) : Go W Q ds k n pc Ls (.int x :: .int j :: .ref a :: st) := by
  subst hs hp
  obtain ⟨p, l, e, R, s, mm, args, below, meth, c, Z, h0⟩ := W
  obtain ⟨k1, k2, k3, k4, k5, k6, k7, k8, rfl, rfl, rfl, rfl⟩ := K
  intro T L N X H
  obtain ⟨hge, cl, A, S, EX⟩ := H.2.1 _ _ ha
  have e1 : j.toNatClampNeg = m := by simp [Int32.toNatClampNeg, hj]
  obtain ⟨T', h', X', eT, Wr1, stp⟩ := stB X k1 k2 rfl A (inb S hj (by simpa using hm)) (g := mkF mm pc Ls (.int x :: .int j :: .ref a :: st)) rfl rfl (hb k3 hd)
  rw [e1] at Wr1 X'
  obtain ⟨s₂, v, h1, rest⟩ := hr T' _ (N.snoc X' hge) X' (by
    rw [eT]
    refine H.set ha Wr1 ⟨_, A.same Wr1, ?_, EX.wr Wr1⟩
    simp [Cell.setSlot, S, List.map_set])
  exact ⟨s₂, v, stp _ h1, rest⟩
theorem go_newI (K : Ok W B y rm mL ret l Z h0) {m cap : Nat} {z : Int32} (w : (Jvm.Cond.arrayClass .int).before a0 Z = true) (hd : decode B pc = .ok (.newarray .int, 2)) (hz : z.toInt = (m : Int)) (hcap : m ≤ cap) (hb8 : cap * 8 ≤ 536870912) (hk : k + 1 ≤ rm.cells) (hn : n + cap ≤ rm.slots) (hp : pc + 2 = pc')
    (hr : ∀ a, h0.size ≤ a → (∀ q ∈ ds, q.1 < a) → Go W Q (ds ++ [(a, ia (List.replicate m 0))]) (k + 1) (n + cap) pc' Ls (.ref a :: st)) : Go W Q ds k n pc Ls (.int z :: st) := by
  subst hp
  obtain ⟨p, l, e, R, s, mm, args, below, meth, c, Z, h0⟩ := W
  obtain ⟨k1, k2, k3, k4, k5, k6, k7, k8, rfl, rfl, rfl, rfl⟩ := K
  intro T L N X H
  have e1 : z.toNatClampNeg = m := by simp [Int32.toNatClampNeg, hz]
  obtain ⟨T', h', cA, X', eT, E, A, EX, stp⟩ := newPE X k1 k2 (aty := .int) w rfl (g := mkF mm pc Ls (.int z :: st)) rfl (hb k3 hd) rfl (by rw [Int32.lt_iff_toInt_lt, hz]; exact Int.not_lt.mpr (Int.natCast_nonneg m)) (cap := cap) (by rw [e1]; exact hcap) hb8 hk hn rfl
  obtain ⟨s₂, v, h1, rest⟩ := hr T.heap.size H.1.1 H.lts T' _ N X' (by
    rw [eT]
    refine H.new E ⟨_, A, ?_, EX⟩
    simp only [newA, e1, List.map_replicate]
    first | rfl | simp [defaultValue, newarray.typeOf])
  exact ⟨s₂, v, stp _ h1, rest⟩
theorem go_newJ (K : Ok W B y rm mL ret l Z h0) {m cap : Nat} {z : Int32} (w : (Jvm.Cond.arrayClass .long).before a0 Z = true) (hd : decode B pc = .ok (.newarray .long, 2)) (hz : z.toInt = (m : Int)) (hcap : m ≤ cap) (hb8 : cap * 8 ≤ 536870912) (hk : k + 1 ≤ rm.cells) (hn : n + cap ≤ rm.slots) (hp : pc + 2 = pc')
    (hr : ∀ a, h0.size ≤ a → (∀ q ∈ ds, q.1 < a) → Go W Q (ds ++ [(a, la (List.replicate m 0))]) (k + 1) (n + cap) pc' Ls (.ref a :: st)) : Go W Q ds k n pc Ls (.int z :: st) := by
  subst hp
  obtain ⟨p, l, e, R, s, mm, args, below, meth, c, Z, h0⟩ := W
  obtain ⟨k1, k2, k3, k4, k5, k6, k7, k8, rfl, rfl, rfl, rfl⟩ := K
  intro T L N X H
  have e1 : z.toNatClampNeg = m := by simp [Int32.toNatClampNeg, hz]
  obtain ⟨T', h', cA, X', eT, E, A, EX, stp⟩ := newPE X k1 k2 (aty := .long) w rfl (g := mkF mm pc Ls (.int z :: st)) rfl (hb k3 hd) rfl (by rw [Int32.lt_iff_toInt_lt, hz]; exact Int.not_lt.mpr (Int.natCast_nonneg m)) (cap := cap) (by rw [e1]; exact hcap) hb8 hk hn rfl
  obtain ⟨s₂, v, h1, rest⟩ := hr T.heap.size H.1.1 H.lts T' _ N X' (by
    rw [eT]
    refine H.new E ⟨_, A, ?_, EX⟩
    simp only [newA, e1, List.map_replicate]
    first | rfl | simp [defaultValue, newarray.typeOf])
  exact ⟨s₂, v, stp _ h1, rest⟩
theorem go_newB (K : Ok W B y rm mL ret l Z h0) {m cap : Nat} {z : Int32} (w : (Jvm.Cond.arrayClass .byte).before a0 Z = true) (hd : decode B pc = .ok (.newarray .byte, 2)) (hz : z.toInt = (m : Int)) (hcap : m ≤ cap) (hb8 : cap * 8 ≤ 536870912) (hk : k + 1 ≤ rm.cells) (hn : n + cap ≤ rm.slots) (hp : pc + 2 = pc')
    (hr : ∀ a, h0.size ≤ a → (∀ q ∈ ds, q.1 < a) → Go W Q (ds ++ [(a, ba (List.replicate m 0))]) (k + 1) (n + cap) pc' Ls (.ref a :: st)) : Go W Q ds k n pc Ls (.int z :: st) := by
  subst hp
  obtain ⟨p, l, e, R, s, mm, args, below, meth, c, Z, h0⟩ := W
  obtain ⟨k1, k2, k3, k4, k5, k6, k7, k8, rfl, rfl, rfl, rfl⟩ := K
  intro T L N X H
  have e1 : z.toNatClampNeg = m := by simp [Int32.toNatClampNeg, hz]
  obtain ⟨T', h', cA, X', eT, E, A, EX, stp⟩ := newPE X k1 k2 (aty := .byte) w rfl (g := mkF mm pc Ls (.int z :: st)) rfl (hb k3 hd) rfl (by rw [Int32.lt_iff_toInt_lt, hz]; exact Int.not_lt.mpr (Int.natCast_nonneg m)) (cap := cap) (by rw [e1]; exact hcap) hb8 hk hn rfl
  obtain ⟨s₂, v, h1, rest⟩ := hr T.heap.size H.1.1 H.lts T' _ N X' (by
    rw [eT]
    refine H.new E ⟨_, A, ?_, EX⟩
    simp only [newA, e1, List.map_replicate]
    first | rfl | simp [defaultValue, newarray.typeOf])
  exact ⟨s₂, v, stp _ h1, rest⟩

/-! calls -/
theorem go_static (K : Ok W B y rm mL ret l Z h0) {y' : MethodName} {B' : ByteArray} {mL' idx Wd : Nat} {ret' : Option FieldType} {rm' : Room} {Q' : Option Value → Hp → Prop} {argsL rest : List Value}
    (w1 : (Jvm.Cond.methodLink y.cls idx y').before a0 Z = true) (w2 : (Jvm.Cond.static y').before a0 Z = true) (w3 : (Jvm.Cond.initialized y'.cls).before a0 Z = true) (w4 : (Jvm.Cond.code y' B' mL' ret').before a0 Z = true)
    (hd : decode B pc = .ok (.invokestatic idx, 3)) (hct : Ct l Z h0 y' B' mL' ret' [] rm' argsL.toArray ds Q') (hlen : ∀ sig, parseMethodDescriptor y'.desc = some sig → argsL.length = sig.parameters.length) (hsz : Ls.size = mL) (hst : st = argsL.reverse ++ rest)
    (hy : y'.cls ≠ "java/lang/invoke/MethodHandle" ∧ y'.cls ≠ "java/lang/invoke/VarHandle") (hW : (rest.map fun v => v.category).sum = Wd) (hf : rm'.frames + 1 ≤ rm.frames) (hl : Wd + (mL' + 11) + rm'.locals ≤ rm.locals) (hk : k + rm'.cells ≤ rm.cells) (hn : n + rm'.slots ≤ rm.slots) (hp : pc + 3 = pc')
    (hr : ∀ v ds', Q' v ds' → Go W Q ds' (k + rm'.cells) (n + rm'.slots) pc' Ls (v.toList ++ rest)) : Go W Q ds k n pc Ls st := by
  subst hp hst
  obtain ⟨p, l, e, R, s, m, args, below, meth, c, Z, h0⟩ := W
  obtain ⟨k1, k2, k3, k4, k5, k6, k7, k8, rfl, rfl, rfl, rfl⟩ := K
  intro T L N X H
  obtain ⟨v, vm₁, ⟨T', L', kk, nn⟩, -, X', ⟨Lc, hQ, l1, y1, z1⟩, stp⟩ := Jvm.LawKit.callS X k1 (y := y') k5 (mvT k2 w1) (mvT k2 w2) (mvT k2 w3) (mvT k2 w4) hy
    (backOf (W := Wd) (Q := fun v h L => Fr h0.size L ∧ ∃ ds', HL Z h0 ds' h ∧ Q' v ds') (hct _ H) k2 w4 w3 hf hl) (g := mkF m pc Ls (argsL.reverse ++ rest)) rfl (hsz.trans k4.symm) (argsL := argsL) (rest := rest) hlen rfl (by show 2 * 0 + _ ≤ _; omega) (hb k3 hd) (fun _ _ => ⟨rfl, rfl, hk, hn⟩)
  dsimp only [Pt.U, Pt.locs, Pt.cells, Pt.slots] at X' l1 y1 z1 stp hQ
  subst l1 y1 z1
  obtain ⟨N', ds', H', hq⟩ := hQ
  obtain ⟨s₂, v₂, h1, rest'⟩ := hr v ds' hq T' _ (N.app N') X' H'
  exact ⟨s₂, v₂, stp _ h1, rest'⟩
theorem go_virtual (K : Ok W B y rm mL ret l Z h0) {y' : MethodName} {B' : ByteArray} {mL' idx Wd i b : Nat} {ret' : Option FieldType} {rm' : Room} {Q' : Option Value → Hp → Prop} {argsL rest : List Value} {C : String} {fs : List ((String × String × String) × Value)}
    (w1 : (Jvm.Cond.methodLink y.cls idx y').before a0 Z = true) (w2 : (Jvm.Cond.declares y').before a0 Z = true) (w3 : (Jvm.Cond.selects C y' y').before a0 Z = true) (w4 : (Jvm.Cond.instanceMethod y').before a0 Z = true) (w5 : (Jvm.Cond.initialized y'.cls).before a0 Z = true) (w6 : (Jvm.Cond.code y' B' mL' ret').before a0 Z = true)
    (ha : ds[i]? = some (b, .inr (C, fs))) (hd : decode B pc = .ok (.invokevirtual idx, 3)) (hct : Ct l Z h0 y' B' mL' ret' [] rm' (.ref b :: argsL).toArray ds Q') (hlen : ∀ sig, parseMethodDescriptor y'.desc = some sig → argsL.length = sig.parameters.length) (hsz : Ls.size = mL) (hst : st = argsL.reverse ++ .ref b :: rest)
    (hy : y'.cls ≠ "java/lang/invoke/MethodHandle" ∧ y'.cls ≠ "java/lang/invoke/VarHandle") (hW : (rest.map fun v => v.category).sum = Wd) (hf : rm'.frames + 1 ≤ rm.frames) (hl : Wd + (mL' + 11) + rm'.locals ≤ rm.locals) (hk : k + rm'.cells ≤ rm.cells) (hn : n + rm'.slots ≤ rm.slots) (hp : pc + 3 = pc')
    (hr : ∀ v ds', Q' v ds' → Go W Q ds' (k + rm'.cells) (n + rm'.slots) pc' Ls (v.toList ++ rest)) : Go W Q ds k n pc Ls st := by
  subst hp hst
  obtain ⟨p, l, e, R, s, m, args, below, meth, c, Z, h0⟩ := W
  obtain ⟨k1, k2, k3, k4, k5, k6, k7, k8, rfl, rfl, rfl, rfl⟩ := K
  intro T L N X H
  obtain ⟨-, E, -⟩ := H.2.1 _ _ ha
  obtain ⟨cB, kB, q1, -, q3⟩ := isOf (T := T) k2 rfl E
  obtain ⟨v, vm₁, ⟨T', L', kk, nn⟩, -, X', ⟨Lc, hQ, l1, y1, z1⟩, stp⟩ := X.virtualBack k1 (y := y') (z := y') k5 (mvT k2 w1) (mvT k2 w2) (notFace_of_selects (args := #[]) (mvT k2 w3)) (mvT k2 w3) (mvT k2 w4) hy
    (backOf (W := Wd) (Q := fun v h L => Fr h0.size L ∧ ∃ ds', HL Z h0 ds' h ∧ Q' v ds') (hct _ H) k2 w6 w5 hf hl) q1 q3 (g := mkF m pc Ls (argsL.reverse ++ .ref b :: rest)) rfl (hsz.trans k4.symm) (Steps.refl _) (argsL := argsL) (rest := rest) hlen rfl (by show 2 * 0 + _ ≤ _; omega) (hb k3 hd) (fun _ _ => ⟨rfl, rfl, hk, hn⟩)
  dsimp only [Pt.U, Pt.locs, Pt.cells, Pt.slots] at X' l1 y1 z1 stp hQ
  subst l1 y1 z1
  obtain ⟨N', ds', H', hq⟩ := hQ
  obtain ⟨s₂, v₂, h1, rest'⟩ := hr v ds' hq T' _ (N.app N') X' H'
  exact ⟨s₂, v₂, stp.trans h1, rest'⟩
theorem go_private (K : Ok W B y rm mL ret l Z h0) {y' : MethodName} {B' : ByteArray} {mL' idx Wd i b kk : Nat} {ret' : Option FieldType} {rm' : Room} {Q' : Option Value → Hp → Prop} {argsL rest : List Value} {C : String} {fs : List ((String × String × String) × Value)}
    (w1 : (Jvm.Cond.methodLink y.cls idx y').before a0 Z = true) (w2 : (Jvm.Cond.instanceMethod y').before a0 Z = true) (w3 : (Jvm.Cond.privateMethod y').before a0 Z = true) (w4 : (Jvm.Cond.instantiable y'.cls kk).before a0 Z = true) (w5 : (Jvm.Cond.initialized y'.cls).before a0 Z = true) (w6 : (Jvm.Cond.code y' B' mL' ret').before a0 Z = true)
    (ha : ds[i]? = some (b, .inr (C, fs))) (hd : decode B pc = .ok (.invokevirtual idx, 3)) (hct : Ct l Z h0 y' B' mL' ret' [] rm' (.ref b :: argsL).toArray ds Q') (hlen : ∀ sig, parseMethodDescriptor y'.desc = some sig → argsL.length = sig.parameters.length) (hsz : Ls.size = mL) (hst : st = argsL.reverse ++ .ref b :: rest)
    (hy : y'.cls ≠ "java/lang/invoke/MethodHandle" ∧ y'.cls ≠ "java/lang/invoke/VarHandle") (hW : (rest.map fun v => v.category).sum = Wd) (hf : rm'.frames + 1 ≤ rm.frames) (hl : Wd + (mL' + 11) + rm'.locals ≤ rm.locals) (hk : k + rm'.cells ≤ rm.cells) (hn : n + rm'.slots ≤ rm.slots) (hp : pc + 3 = pc')
    (hr : ∀ v ds', Q' v ds' → Go W Q ds' (k + rm'.cells) (n + rm'.slots) pc' Ls (v.toList ++ rest)) : Go W Q ds k n pc Ls st := by
  subst hp hst
  obtain ⟨p, l, e, R, s, m, args, below, meth, c, Z, h0⟩ := W
  obtain ⟨k1, k2, k3, k4, k5, k6, k7, k8, rfl, rfl, rfl, rfl⟩ := K
  intro T L N X H
  obtain ⟨-, E, -⟩ := H.2.1 _ _ ha
  obtain ⟨cell, hcell, hobj⟩ := E.cell
  obtain ⟨c1, k1', i1, i2, -, i4, -, -⟩ := Cond.instantiable_spec (show (Jvm.Cond.instantiable y'.cls kk).before args s = true from mvT k2 w4)
  have hpriv : s.PrivateAt y' := Cond.privateMethod_at (mvP k2 w3 (args := #[]))
  have hni : k1'.isInterface = false := by
    cases q : k1'.isInterface
    · rfl
    · rw [q] at i4; cases i4
  have hsel := selects_self_of_private (args := args) i1 i2 hni hpriv (mvT k2 w2) hy
  obtain ⟨v, vm₁, ⟨T', L', kk, nn⟩, -, X', ⟨Lc, hQ, l1, y1, z1⟩, stp⟩ := X.privateBack k1 (y := y') k5 (mvT k2 w1) (mvT k2 w2) hsel hpriv (mvT k2 w6) hy
    (backOf (W := Wd) (Q := fun v h L => Fr h0.size L ∧ ∃ ds', HL Z h0 ds' h ∧ Q' v ds') (hct _ H) k2 w6 w5 hf hl) (g := mkF m pc Ls (argsL.reverse ++ .ref b :: rest)) rfl (hsz.trans k4.symm) (Steps.refl _) (a := b) hcell hobj (argsL := argsL) (rest := rest) hlen rfl (by show 2 * 0 + _ ≤ _; omega) (hb k3 hd) (fun _ _ => ⟨rfl, rfl, hk, hn⟩)
  dsimp only [Pt.U, Pt.locs, Pt.cells, Pt.slots] at X' l1 y1 z1 stp hQ
  subst l1 y1 z1
  obtain ⟨N', ds', H', hq⟩ := hQ
  obtain ⟨s₂, v₂, h1, rest'⟩ := hr v ds' hq T' _ (N.app N') X' H'
  exact ⟨s₂, v₂, stp.trans h1, rest'⟩
theorem go_special (K : Ok W B y rm mL ret l Z h0) {y' : MethodName} {B' : ByteArray} {mL' idx Wd b : Nat} {rm' : Room} {Q' : Option Value → Hp → Prop} {argsL rest : List Value} (hin : y'.name = "<init>")
    (w1 : (Jvm.Cond.methodLink y.cls idx y').before a0 Z = true) (w2 : (Jvm.Cond.instanceMethod y').before a0 Z = true) (w3 : (Jvm.Cond.initialized y'.cls).before a0 Z = true) (w4 : (Jvm.Cond.code y' B' mL' none).before a0 Z = true)
    (hd : decode B pc = .ok (.invokespecial idx, 3)) (hct : Ct l Z h0 y' B' mL' none [] rm' (.ref b :: argsL).toArray ds Q') (hlen : ∀ sig, parseMethodDescriptor y'.desc = some sig → argsL.length = sig.parameters.length) (hsz : Ls.size = mL) (hst : st = argsL.reverse ++ .ref b :: rest)
    (hy : y'.cls ≠ "java/lang/invoke/MethodHandle" ∧ y'.cls ≠ "java/lang/invoke/VarHandle") (hW : (rest.map fun v => v.category).sum = Wd) (hf : rm'.frames + 1 ≤ rm.frames) (hl : Wd + (mL' + 11) + rm'.locals ≤ rm.locals) (hk : k + rm'.cells ≤ rm.cells) (hn : n + rm'.slots ≤ rm.slots) (hp : pc + 3 = pc')
    (hr : ∀ v ds', Q' v ds' → Go W Q ds' (k + rm'.cells) (n + rm'.slots) pc' Ls (v.toList ++ rest)) : Go W Q ds k n pc Ls st := by
  subst hp hst
  obtain ⟨p, l, e, R, s, m, args, below, meth, c, Z, h0⟩ := W
  obtain ⟨k1, k2, k3, k4, k5, k6, k7, k8, rfl, rfl, rfl, rfl⟩ := K
  intro T L N X H
  obtain ⟨v, vm₁, ⟨T', L', kk, nn⟩, -, X', ⟨Lc, hQ, l1, y1, z1⟩, stp⟩ := X.specialBack k1 (y := y') hin k5 (mvT k2 w1) (mvT k2 w2) (mvT k2 w4) hy
    (backOf (W := Wd) (Q := fun v h L => Fr h0.size L ∧ ∃ ds', HL Z h0 ds' h ∧ Q' v ds') (hct _ H) k2 w4 w3 hf hl) (g := mkF m pc Ls (argsL.reverse ++ .ref b :: rest)) rfl (hsz.trans k4.symm) (Steps.refl _) (a := b) (argsL := argsL) (rest := rest) hlen rfl (by show 2 * 0 + _ ≤ _; omega) (hb k3 hd) (fun _ _ => ⟨rfl, rfl, hk, hn⟩)
  dsimp only [Pt.U, Pt.locs, Pt.cells, Pt.slots] at X' l1 y1 z1 stp hQ
  subst l1 y1 z1
  obtain ⟨N', ds', H', hq⟩ := hQ
  obtain ⟨s₂, v₂, h1, rest'⟩ := hr v ds' hq T' _ (N.app N') X' H'
  exact ⟨s₂, v₂, stp.trans h1, rest'⟩
/-! objects -/
theorem go_objinit (K : Ok W B y rm mL ret l Z h0) {idx Wd b : Nat} (w1 : (Jvm.Cond.methodLink y.cls idx Lib.objectInit).before a0 Z = true) (w2 : (Jvm.Cond.instanceMethod Lib.objectInit).before a0 Z = true) (w3 : (Jvm.Cond.code Lib.objectInit ⟨#[0xb1]⟩ 1 none).before a0 Z = true)
    (hd : decode B pc = .ok (.invokespecial idx, 3)) (hsz : Ls.size = mL) (hW : (st.map fun v => v.category).sum = Wd) (hf : 1 ≤ rm.frames) (hl : Wd + 12 ≤ rm.locals) (hp : pc + 3 = pc') (hr : Go W Q ds k n pc' Ls st) : Go W Q ds k n pc Ls (.ref b :: st) := by
  subst hp
  obtain ⟨p, l, e, R, s, m, args, below, meth, c, Z, h0⟩ := W
  obtain ⟨k1, k2, k3, k4, k5, k6, k7, k8, rfl, rfl, rfl, rfl⟩ := K
  intro T L N X H
  obtain ⟨T', X', eT, stp⟩ := initO X k1 k2 k5 w1 w2 w3 rfl (g := mkF m pc Ls (.ref b :: st)) rfl (hsz.trans k4.symm) rfl (hb k3 hd) hf (W := Wd) (by show 2 * 0 + _ ≤ _; omega) hl
  obtain ⟨s₂, v₂, h1, rest'⟩ := hr T' L N X' (by rw [eT]; exact H)
  exact ⟨s₂, v₂, stp _ h1, rest'⟩
theorem go_getfield (K : Ok W B y rm mL ret l Z h0) {idx i j a : Nat} {C O nm d : String} {fs : List ((String × String × String) × Value)} {x : Value} (w : (Jvm.Cond.fieldLink y.cls idx O nm d).before a0 Z = true)
    (ha : ds[i]? = some (a, .inr (C, fs))) (hf : fs[j]? = some ((O, nm, d), x)) (hd : decode B pc = .ok (.getfield idx, 3)) (hp : pc + 3 = pc') (hr : Go W Q ds k n pc' Ls (x :: st)) : Go W Q ds k n pc Ls (.ref a :: st) := by
  subst hp
  obtain ⟨p, l, e, R, s, m, args, below, meth, c, Z, h0⟩ := W
  obtain ⟨k1, k2, k3, k4, k5, k6, k7, k8, rfl, rfl, rfl, rfl⟩ := K
  intro T L N X H
  obtain ⟨-, E, F⟩ := H.2.1 _ _ ha
  obtain ⟨T', X', eT, stp⟩ := getF X k1 k2 k5 (host := "") (Or.inl w) Via.refl rfl (F j _ hf) (g := mkF m pc Ls (.ref a :: st)) rfl rfl (hb k3 hd)
  obtain ⟨s₂, v₂, h1, rest'⟩ := hr T' L N X' (by rw [eT]; exact H)
  exact ⟨s₂, v₂, stp _ h1, rest'⟩
theorem go_putfield (K : Ok W B y rm mL ret l Z h0) {idx i j a kk : Nat} {C O nm d : String} {fs : List ((String × String × String) × Value)} {KS : List (String × String × String)} {x old : Value} {ty : FieldType} {ds' : Hp} (w : (Jvm.Cond.fieldLink y.cls idx O nm d).before a0 Z = true)
    (wl : (Jvm.Cond.lays C O nm d).before a0 Z = true ∨ ((Jvm.Cond.laysFinal C O nm d).before a0 Z = true ∧ y.cls = O ∧ y.name = "<init>")) (wi : (Jvm.Cond.instantiable C kk).before a0 Z = true)
    (ha : ds[i]? = some (a, .inr (C, fs))) (hf : fs[j]? = some ((O, nm, d), old)) (hks : fs.map Prod.fst = KS) (al : ∀ f ∈ KS, Laid Z a0 C f.1 f.2.1 f.2.2 ∧ ∃ t, parseFieldDescriptor f.2.2 = some t) (nd : (KS.map fun f => f.2.1).Nodup)
    (hty : parseFieldDescriptor d = some ty) (hn : narrow ty x = x) (hfi : fits ty x = true) (hd : decode B pc = .ok (.putfield idx, 3)) (hp : pc + 3 = pc') (hs : ds.set i (a, .inr (C, fs.set j ((O, nm, d), x))) = ds')
    (hr : Go W Q ds' k n pc' Ls st) : Go W Q ds k n pc Ls (x :: .ref a :: st) := by
  subst hp hs hks
  have hkey : ∀ j' (f : (String × String × String) × Value), fs[j']? = some f → (fs.map Prod.fst)[j']? = some f.1 := fun j' f h => by rw [List.getElem?_map, h]; rfl
  have hne : ∀ (j' : Nat) (f : (String × String × String) × Value), fs[j']? = some f → j' ≠ j → Jvm.RoadKit.slotOf Z f.1.1 f.1.2.1 f.1.2.2 ≠ Jvm.RoadKit.slotOf Z O nm d := fun j' f hf' hj => by
    obtain ⟨L1, t1, p1⟩ := al f.1 (List.mem_of_getElem? (hkey j' f hf'))
    obtain ⟨L2, t2, p2⟩ := al (O, nm, d) (List.mem_of_getElem? (hkey j _ hf))
    refine slot_ne L1 L2 (fun e => hj ?_) p1 p2
    have q1 : ((fs.map Prod.fst).map fun f => f.2.1)[j']? = some f.1.2.1 := by rw [List.getElem?_map, hkey j' f hf']; rfl
    have q2 : ((fs.map Prod.fst).map fun f => f.2.1)[j]? = some nm := by rw [List.getElem?_map, hkey j _ hf]; rfl
    have lt : j' < ((fs.map Prod.fst).map fun f => f.2.1).length := (List.getElem?_eq_some_iff.mp q1).1
    exact (List.getElem?_inj lt nd).mp (by rw [q1, q2, e])
  obtain ⟨p, l, e, R, s, m, args, below, meth, c, Z, h0⟩ := W
  obtain ⟨k1, k2, k3, k4, k5, k6, k7, k8, rfl, rfl, rfl, rfl⟩ := K
  intro T L N X H
  obtain ⟨hge, E, F⟩ := H.2.1 _ _ ha
  obtain ⟨T', h', X', eT, W1, stp⟩ := putF X k1 k2 k5 (host := "") (Or.inl w) Via.refl rfl (F j _ hf) E (wl.imp id fun q => ⟨q.1, q.2.1, k8.trans q.2.2⟩) wi hty hn hfi (g := mkF m pc Ls (x :: .ref a :: st)) rfl rfl (hb k3 hd)
  obtain ⟨s₂, v₂, h1, rest'⟩ := hr T' _ (N.snoc X' hge) X' (by
    rw [eT]
    refine H.set ha W1 ⟨E.wr W1, fun j' f hf' => ?_⟩
    rw [List.getElem?_set] at hf'
    by_cases e : j = j'
    · subst e
      rw [if_pos rfl, if_pos (List.getElem?_eq_some_iff.mp hf).1] at hf'
      cases hf'
      exact (F j _ hf).same W1
    · rw [if_neg e] at hf'
      exact (F j' f hf').other W1 (Or.inr (hne j' f hf' fun q => e q.symm)))
  exact ⟨s₂, v₂, stp _ h1, rest'⟩
theorem go_getstatic (K : Ok W B y rm mL ret l Z h0) {idx : Nat} {O nm d : String} {x : Value} (w : (Jvm.Cond.fieldLink y.cls idx O nm d).before a0 Z = true) (S : Sta Z h0 O nm d x) (hd : decode B pc = .ok (.getstatic idx, 3)) (hp : pc + 3 = pc')
    (hr : Go W Q ds k n pc' Ls (x :: st)) : Go W Q ds k n pc Ls st := by
  subst hp
  obtain ⟨p, l, e, R, s, m, args, below, meth, c, Z, h0⟩ := W
  obtain ⟨k1, k2, k3, k4, k5, k6, k7, k8, rfl, rfl, rfl, rfl⟩ := K
  intro T L N X H
  obtain ⟨T', X', eT, stp⟩ := getS (host := "") X k1 k2 k5 w Via.refl rfl (S.ext H.1) (g := mkF m pc Ls st) rfl (hb k3 hd)
  obtain ⟨s₂, v₂, h1, rest'⟩ := hr T' L N X' (by rw [eT]; exact H)
  exact ⟨s₂, v₂, stp _ h1, rest'⟩
theorem go_new (K : Ok W B y rm mL ret l Z h0) {idx m : Nat} {C : String} {fs : List ((String × String × String) × Value)} {KS : List (String × String × String)} (w1 : (Jvm.Cond.classLink y.cls idx C).before a0 Z = true) (w2 : (Jvm.Cond.instantiable C m).before a0 Z = true) (w3 : (Jvm.Cond.initialized C).before a0 Z = true)
    (hks : fs.map Prod.fst = KS) (al : ∀ f ∈ KS, Laid Z a0 C f.1 f.2.1 f.2.2 ∧ ∃ t, parseFieldDescriptor f.2.2 = some t) (hdef : fs.map (fun f => (parseFieldDescriptor f.1.2.2).map defaultValue) = fs.map fun f => some f.2) (hd : decode B pc = .ok (.new idx, 3)) (hk : k + 1 ≤ rm.cells) (hn : n + m ≤ rm.slots) (hp : pc + 3 = pc')
    (hr : ∀ a, h0.size ≤ a → (∀ q ∈ ds, q.1 < a) → Go W Q (ds ++ [(a, .inr (C, fs))]) (k + 1) (n + m) pc' Ls (.ref a :: st)) : Go W Q ds k n pc Ls st := by
  subst hp hks
  have hfs : ∀ (j : Nat) (f : (String × String × String) × Value), fs[j]? = some f → Laid Z a0 C f.1.1 f.1.2.1 f.1.2.2 ∧ ∃ ty, parseFieldDescriptor f.1.2.2 = some ty ∧ defaultValue ty = f.2 := fun j f hf => by
    obtain ⟨L1, t1, p1⟩ := al f.1 (List.mem_map_of_mem (List.mem_of_getElem? hf))
    refine ⟨L1, t1, p1, ?_⟩
    have q : (fs.map (fun f => (parseFieldDescriptor f.1.2.2).map defaultValue))[j]? = (fs.map fun f => some f.2)[j]? := by rw [hdef]
    rw [List.getElem?_map, List.getElem?_map, hf] at q
    have q' : (parseFieldDescriptor f.1.2.2).map defaultValue = some f.2 := Option.some.inj q
    rw [p1] at q'
    exact Option.some.inj q'
  obtain ⟨p, l, e, R, s, mm, args, below, meth, c, Z, h0⟩ := W
  obtain ⟨k1, k2, k3, k4, k5, k6, k7, k8, rfl, rfl, rfl, rfl⟩ := K
  intro T L N X H
  obtain ⟨T', h', X', eT, E, A, D, -, stp⟩ := newO X k1 k2 k5 w1 w2 w3 rfl (g := mkF mm pc Ls st) rfl (hb k3 hd) hk hn
  obtain ⟨s₂, v, h1, rest⟩ := hr T.heap.size H.1.1 H.lts T' _ N X' (by
    rw [eT]
    refine H.new E ⟨A, fun j f hf => ?_⟩
    obtain ⟨hL, ty, h1, h2⟩ := hfs j f hf
    rw [← h2]
    exact D hL h1)
  exact ⟨s₂, v, stp _ h1, rest⟩
/-! clone, checkcast, arraycopy -/
theorem OkD.keep {Z : State} {h h' : Heap} {b : Nat} {d : D} {ws : List Addr} (K : Jvm.RoadKit.Keep h h' ws) (O : OkD Z h b d) (hne : b ∉ ws) : OkD Z h' b d := by
  cases d with
  | inl q => obtain ⟨c, A, S, X⟩ := O; exact ⟨c, ⟨K.2.1 b c A.1 hne, A.2⟩, S, X.keep K⟩
  | inr q => exact ⟨O.1.keep K, fun j f hf => (O.2 j f hf).keep K hne⟩
theorem HL.keep {Z : State} {h0 h h' : Heap} {ds : Hp} {i a : Nat} {d d' : D} (H : HL Z h0 ds h) (ha : ds[i]? = some (a, d)) (K : Jvm.RoadKit.Keep h h' [a]) (O : OkD Z h' a d') : HL Z h0 (ds.set i (a, d')) h' := by
  have hge := (H.2.1 i _ ha).1
  have hi : i < ds.length := (List.getElem?_eq_some_iff.mp ha).1
  have key : ∀ j (q : Nat × D), (ds.set i (a, d'))[j]? = some q → (j = i ∧ q = (a, d')) ∨ (j ≠ i ∧ ds[j]? = some q) := fun j q hq => by
    rw [List.getElem?_set] at hq
    by_cases e : i = j
    · subst e; rw [if_pos rfl, if_pos hi] at hq; exact Or.inl ⟨rfl, (Option.some.inj hq).symm⟩
    · rw [if_neg e] at hq; exact Or.inr ⟨fun x => e x.symm, hq⟩
  refine ⟨⟨Nat.le_trans H.1.1 K.1, fun b c q => ?_⟩, fun j q hq => ?_, fun j k q r hq hr he => ?_⟩
  · have hlt : b < h0.size := (Array.getElem?_eq_some_iff.mp q).1
    exact K.2.1 b c (H.1.2 b c q) fun z => by cases List.mem_singleton.mp z; exact absurd hlt (Nat.not_lt.mpr hge)
  · rcases key j q hq with ⟨-, rfl⟩ | ⟨hne, hq'⟩
    · exact ⟨hge, O⟩
    · exact ⟨(H.2.1 j q hq').1, (H.2.1 j q hq').2.keep K fun z => hne (H.2.2 j i q _ hq' ha (List.mem_singleton.mp z))⟩
  · have ad : ∀ j (q : Nat × D), (ds.set i (a, d'))[j]? = some q → ∃ q' : Nat × D, ds[j]? = some q' ∧ q'.1 = q.1 := fun j q hq => by
      rcases key j q hq with ⟨rfl, rfl⟩ | ⟨-, hq'⟩
      · exact ⟨_, ha, rfl⟩
      · exact ⟨q, hq', rfl⟩
    obtain ⟨q', a1, a2⟩ := ad j q hq
    obtain ⟨r', b1, b2⟩ := ad k r hr
    exact H.2.2 j k q' r' a1 b1 (by rw [a2, b2]; exact he)
theorem go_clone (K : Ok W B y rm mL ret l Z h0) {idx i a cap Wd : Nat} {ty : FieldType} {vs : List Value} {ad : String}
    (w1 : (Jvm.Cond.methodLink y.cls idx ⟨ad, "clone", "()Ljava/lang/Object;"⟩).before a0 Z = true) (w2 : (Jvm.Cond.sameMethod ad "java/lang/Object" "clone" "()Ljava/lang/Object;").before a0 Z = true) (w3 : (Jvm.Cond.native ⟨"java/lang/Object", "clone", "()Ljava/lang/Object;"⟩).before a0 Z = true)
    (w4 : (Jvm.Cond.instanceMethod ⟨"java/lang/Object", "clone", "()Ljava/lang/Object;"⟩).before a0 Z = true) (w5 : (Jvm.Cond.selects ad ⟨ad, "clone", "()Ljava/lang/Object;"⟩ ⟨"java/lang/Object", "clone", "()Ljava/lang/Object;"⟩).before a0 Z = true) (w6 : (Jvm.Cond.castable ad "java/lang/Cloneable").before a0 Z = true)
    (had : "[" ++ ty.toString = ad) (ha : ds[i]? = some (a, .inl (ty, vs))) (hfit : ∀ v ∈ vs, fits ty v = true) (hd : decode B pc = .ok (.invokevirtual idx, 3)) (hsz : Ls.size = mL) (hW : (st.map fun v => v.category).sum = Wd) (hf : 1 ≤ rm.frames) (hl : Wd + 14 ≤ rm.locals) (hcap : vs.length ≤ cap) (hk : k + 1 ≤ rm.cells) (hn : n + cap ≤ rm.slots) (hp : pc + 3 = pc')
    (hr : ∀ a', h0.size ≤ a' → (∀ q ∈ ds, q.1 < a') → Go W Q (ds ++ [(a', .inl (ty, vs))]) (k + 1) (n + cap) pc' Ls (.ref a' :: st)) : Go W Q ds k n pc Ls (.ref a :: st) := by
  subst hp
  obtain ⟨p, l, e, R, s, mm, args, below, meth, c, Z, h0⟩ := W
  obtain ⟨k1, k2, k3, k4, k5, k6, k7, k8, rfl, rfl, rfl, rfl⟩ := K
  intro T L N X H
  obtain ⟨hge, cl, A, S, EX⟩ := H.2.1 _ _ ha
  have FC : FitC Z cl := fitC_of A fun i hi v hv => hfit v (by
    rw [S, List.getElem?_toArray] at hv
    exact List.mem_of_getElem? hv)
  obtain ⟨T', h', X', eT, E, A', EX', stp⟩ := cloneA X k1 k2 k5 w1 w2 w3 w4 w5 w6 rfl A (had ▸ EX) FC (g := mkF mm pc Ls (.ref a :: st)) rfl (hsz.trans k4.symm) rfl (hb k3 hd) hf (W := Wd) (cap := cap) (by show 2 * 0 + _ ≤ _; omega) hl (by rw [S, List.size_toArray]; exact hcap) hk hn
  obtain ⟨s₂, v, h1, rest⟩ := hr T.heap.size H.1.1 H.lts T' _ N X' (by
    rw [eT]
    exact H.new E ⟨_, A', S, had ▸ EX'⟩)
  exact ⟨s₂, v, stp _ h1, rest⟩
theorem go_castA (K : Ok W B y rm mL ret l Z h0) {idx i a : Nat} {ty : FieldType} {vs : List Value} {Kc ad : String} (w : (Jvm.Cond.classLink y.cls idx Kc).before a0 Z = true) (wc : (Jvm.Cond.castable ad Kc).before a0 Z = true)
    (had : "[" ++ ty.toString = ad) (ha : ds[i]? = some (a, .inl (ty, vs))) (hd : decode B pc = .ok (.checkcast idx, 3)) (hp : pc + 3 = pc') (hr : Go W Q ds k n pc' Ls (.ref a :: st)) : Go W Q ds k n pc Ls (.ref a :: st) := by
  subst hp
  obtain ⟨p, l, e, R, s, mm, args, below, meth, c, Z, h0⟩ := W
  obtain ⟨k1, k2, k3, k4, k5, k6, k7, k8, rfl, rfl, rfl, rfl⟩ := K
  intro T L N X H
  obtain ⟨hge, cl, A, S, EX⟩ := H.2.1 _ _ ha
  obtain ⟨T', X', eT, stp⟩ := castY X k1 k2 k5 w rfl (Ins.of_exa (had ▸ EX) wc) (g := mkF mm pc Ls (.ref a :: st)) rfl rfl (hb k3 hd)
  obtain ⟨s₂, v, h1, rest⟩ := hr T' L N X' (by rw [eT]; exact H)
  exact ⟨s₂, v, stp _ h1, rest⟩
theorem arv_of {Z : State} {h : Heap} {a : Nat} {xs : List Int32} (O : OkD Z h a (ba xs)) (hl : xs.length < 2147483648) (hfit : ∀ x ∈ xs, fits .byte (.int x) = true) : ∃ kk, Arv Z h a kk .byte xs.length.toInt32 (xs.map Value.int) (.int 0) := by
  obtain ⟨c, A, S, -⟩ := O
  have e1 : xs.length.toInt32.toInt = (xs.length : Int) := len_toInt hl
  have e2 : xs.length.toInt32.toNatClampNeg = xs.length := by simp [Int32.toNatClampNeg, e1]
  have sz : c.slots.size = xs.length := by rw [S]; simp
  refine ⟨c.cls, c, A, rfl, by rw [e2, sz], by rw [Int32.lt_iff_toInt_lt, e1]; exact Int.not_lt.mpr (Int.natCast_nonneg _), fun i hi => ?_, fun i hi => ?_⟩
  · have hi' : i < xs.length := by omega
    rw [S]; simp [List.getD_eq_getElem?_getD, hi']
  · have hi' : i < xs.length := by omega
    have : (xs.map Value.int).getD i (.int 0) = .int xs[i] := by simp [List.getD_eq_getElem?_getD, hi']
    rw [this]; exact hfit _ (List.getElem_mem _)
theorem go_acopy (K : Ok W B y rm mL ret l Z h0) {idx i j a b sp dp m Wd : Nat} {xs ys : List Int32} {js jd jn : Int32} {ds' : Hp}
    (w1 : (Jvm.Cond.methodLink y.cls idx Jvm.Stand.acN).before a0 Z = true) (w2 : (Jvm.Cond.native Jvm.Stand.acN).before a0 Z = true) (w3 : (Jvm.Cond.static Jvm.Stand.acN).before a0 Z = true) (w4 : (Jvm.Cond.initialized "java/lang/System").before a0 Z = true)
    (ha : ds[i]? = some (a, ba xs)) (hb' : ds[j]? = some (b, ba ys)) (hxl : xs.length < 2147483648) (hyl : ys.length < 2147483648) (hxf : ∀ x ∈ xs, fits .byte (.int x) = true) (hyf : ∀ x ∈ ys, fits .byte (.int x) = true)
    (h1 : js.toInt = (sp : Int)) (h2 : jd.toInt = (dp : Int)) (h3 : jn.toInt = (m : Int)) (h4 : sp + m ≤ xs.length) (h5 : dp + m ≤ ys.length) (hd : decode B pc = .ok (.invokestatic idx, 3)) (hsz : Ls.size = mL) (hW : (st.map fun v => v.category).sum = Wd) (hf : 1 ≤ rm.frames) (hl : Wd + (nativeFrameWords "java/lang/System" "arraycopy" 5 + 11) ≤ rm.locals) (hp : pc + 3 = pc')
    (hs : ds.set j (b, ba (ys.take dp ++ (xs.drop sp).take m ++ ys.drop (dp + m))) = ds') (hr : Go W Q ds' k n pc' Ls st) : Go W Q ds k n pc Ls (.int jn :: .int jd :: .ref b :: .int js :: .ref a :: st) := by
  subst hp hs
  obtain ⟨p, l, e, R, s, mm, args, below, meth, c, Z, h0⟩ := W
  obtain ⟨k1, k2, k3, k4, k5, k6, k7, k8, rfl, rfl, rfl, rfl⟩ := K
  intro T L N X H
  obtain ⟨-, Oa⟩ := H.2.1 _ _ ha
  obtain ⟨hge, Ob⟩ := H.2.1 _ _ hb'
  obtain ⟨ka, Aa⟩ := arv_of Oa hxl hxf
  obtain ⟨kb, Ab⟩ := arv_of Ob hyl hyf
  have cl : ∀ {x : Int32} {q : Nat}, x.toInt = (q : Int) → x.toNatClampNeg = q := fun {x q} hq => by simp [Int32.toNatClampNeg, hq]
  have nn : ∀ {x : Int32} {q : Nat}, x.toInt = (q : Int) → ¬ x < 0 := fun {x q} hq => by rw [Int32.lt_iff_toInt_lt, hq]; exact Int.not_lt.mpr (Int.natCast_nonneg _)
  have lx : xs.length.toInt32.toNatClampNeg = xs.length := cl (len_toInt hxl)
  have ly : ys.length.toInt32.toNatClampNeg = ys.length := cl (len_toInt hyl)
  obtain ⟨T', h', L', X', eT, N', Kp, A', stp⟩ := cpA X k1 k2 k5 w1 w2 w3 w4 rfl Aa Ab (Or.inl ⟨rfl, rfl⟩) (nn h1) (nn h2) (nn h3) (by rw [cl h1, cl h3, lx]; exact h4) (by rw [cl h2, cl h3, ly]; exact h5) rfl (by rw [cl h2, cl h3, List.length_map]; exact h5) N hge
    (g := mkF mm pc Ls (.int jn :: .int jd :: .ref b :: .int js :: .ref a :: st)) rfl (hsz.trans k4.symm) rfl (hb k3 hd) hf (W := Wd) (by show 2 * 0 + _ ≤ _; omega) hl
  rw [cl h1, cl h2, cl h3] at A'
  have us : ((List.range m).map fun i => (xs.map Value.int).getD (sp + i) (.int 0)) = ((xs.drop sp).take m).map Value.int := by
    apply List.ext_getElem?
    intro t
    by_cases ht : t < m
    · have : sp + t < xs.length := by omega
      simp [ht, List.getD_eq_getElem?_getD, this, List.getElem?_take, List.getElem?_drop]
    · simp [ht, List.getElem?_take]
  rw [us] at A'
  obtain ⟨s₂, v, h1', rest⟩ := hr T' L' N' X' (by
    rw [eT]
    obtain ⟨c', Ar, -, Sz, -, Hs, -⟩ := A'
    obtain ⟨cb, Ab0, Sb, EXb⟩ := Ob
    refine H.keep hb' Kp ⟨c', Ar, ?_, EXb.keep Kp⟩
    rw [ly] at Sz
    apply Array.ext_getElem?
    intro t
    by_cases ht : t < c'.slots.size
    · have hl : (ys.take dp ++ (xs.drop sp).take m ++ ys.drop (dp + m)).length = ys.length := by simp; omega
      have hlt : t < (ys.take dp ++ (xs.drop sp).take m ++ ys.drop (dp + m)).length := by omega
      rw [Hs t ht, List.getElem?_toArray]
      have q : List.map Value.int ys = List.map Value.int ys := rfl
      rw [← List.map_take, ← List.map_drop, ← List.map_append, ← List.map_append, List.getD_eq_getElem?_getD, List.getElem?_map, List.getElem?_eq_getElem hlt]; rfl
    · rw [Array.getElem?_eq_none (by omega), List.getElem?_toArray, List.getElem?_eq_none (by simp; omega)])
  exact ⟨s₂, v, stp _ h1', rest⟩
end Steps
theorem at_last {ds : Hp} {e : Nat × D} : (ds ++ [e])[ds.length]? = some e := List.getElem?_concat_length
theorem at_left {ds ext : Hp} {q : Nat × D} {i : Nat} (h : ds[i]? = some q) : (ds ++ ext)[i]? = some q := by
  rw [List.getElem?_append_left (List.getElem?_eq_some_iff.mp h).1]; exact h
theorem at_ext {ds ext : Hp} {q : Nat × D} {t : Nat} (h : ext[t]? = some q) : (ds ++ ext)[ds.length + t]? = some q := by
  rw [List.getElem?_append_right (Nat.le_add_right _ _), Nat.add_sub_cancel_left]; exact h
theorem set_ext {ds ext : Hp} {e : Nat × D} {t : Nat} : (ds ++ ext).set (ds.length + t) e = ds ++ ext.set t e := by
  rw [List.set_append, if_neg (Nat.not_lt.mpr (Nat.le_add_right _ _)), Nat.add_sub_cancel_left]
theorem set_last {ds : Hp} {e e' : Nat × D} : (ds ++ [e]).set ds.length e' = ds ++ [e'] := by
  rw [List.set_append, if_neg (Nat.lt_irrefl _), Nat.sub_self]; rfl
/-! small facts on ints -/
theorem i0 : (0 : Int32).toInt = 0 := rfl
theorem ibound (x : Int32) : -2147483648 ≤ x.toInt ∧ x.toInt < 2147483648 := ⟨x.le_toInt, x.toInt_lt⟩
theorem iadd_eq {x z : Int32} (h1 : -2147483648 ≤ x.toInt + z.toInt) (h2 : x.toInt + z.toInt < 2147483648) : (x + z).toInt = x.toInt + z.toInt := XT.add32 ⟨h1, h2⟩
theorem isub_eq {x z : Int32} (h1 : -2147483648 ≤ x.toInt - z.toInt) (h2 : x.toInt - z.toInt < 2147483648) : (x - z).toInt = x.toInt - z.toInt := XT.sub32 ⟨h1, h2⟩
theorem iinj {x z : Int32} (h : x.toInt = z.toInt) : x = z := Int32.toInt_inj.mp h
theorem drop_cons {α : Type} {xs rest : List α} {x : α} {j : Nat} (h : xs.drop j = x :: rest) : xs[j]? = some x ∧ xs.drop (j + 1) = rest ∧ j < xs.length := by
  have h1 : xs[j]? = some x := by
    have q : (xs.drop j)[0]? = some x := by rw [h]; rfl
    rwa [List.getElem?_drop, Nat.add_zero] at q
  refine ⟨h1, ?_, (List.getElem?_eq_some_iff.mp h1).1⟩
  have q : (xs.drop j).drop 1 = rest := by rw [h]; rfl
  rwa [List.drop_drop] at q
theorem drop_none {α : Type} {xs : List α} {j : Nat} (h : xs.drop j = []) : xs.length ≤ j := List.drop_eq_nil_iff.mp h
theorem isucc {x : Int32} {j : Nat} (h : x.toInt = (j : Int)) (hj : j < 2147483647) : (x + 1).toInt = ((j + 1 : Nat) : Int) := by
  have q : (1 : Int32).toInt = 1 := rfl
  rw [iadd_eq (by rw [q]; omega) (by rw [q]; omega), q]; omega
theorem ilt5 {x : Int32} (h0 : 0 ≤ x.toInt) (h1 : x.toInt < 5) : x = 0 ∨ x = 1 ∨ x = 2 ∨ x = 3 ∨ x = 4 := by
  have : x.toInt = 0 ∨ x.toInt = 1 ∨ x.toInt = 2 ∨ x.toInt = 3 ∨ x.toInt = 4 := by omega
  rcases this with e | e | e | e | e
  · exact Or.inl (iinj e)
  · exact Or.inr (Or.inl (iinj e))
  · exact Or.inr (Or.inr (Or.inl (iinj e)))
  · exact Or.inr (Or.inr (Or.inr (Or.inl (iinj e))))
  · exact Or.inr (Or.inr (Or.inr (Or.inr (iinj e))))
theorem ilt4 {x : Int32} (h0 : 0 ≤ x.toInt) (h1 : x.toInt < 4) : x = 0 ∨ x = 1 ∨ x = 2 ∨ x = 3 := by
  have : x.toInt = 0 ∨ x.toInt = 1 ∨ x.toInt = 2 ∨ x.toInt = 3 := by omega
  rcases this with e | e | e | e
  · exact Or.inl (iinj e)
  · exact Or.inr (Or.inl (iinj e))
  · exact Or.inr (Or.inr (Or.inl (iinj e)))
  · exact Or.inr (Or.inr (Or.inr (iinj e)))
theorem len32 {m : Nat} (h : m < 2147483648) : (m.toInt32).toInt = (m : Int) := len_toInt h
end Jvm.Own
namespace Jvm.Pilot.@@N@@
open Jvm Jvm.ClassFile Sem Op Lib Jvm.Free Jvm.Stand Jvm.LawKit Jvm.RoadKit Jvm.Own Bundle Jvm.Pilot.@@N@@.Jvm.D
theorem pf_0 : plainFor x = true := by first | exact plainFor_of_name (by first | (simp [plainName, overriddenIn]; done) | decide +kernel) | decide +kernel

theorem pf_1 : plainFor (⟨"com/example/hazusu/hazusu/StateBytes$Writer", "<init>", "()V"⟩ : MethodName) = true := by first | exact plainFor_of_name (by first | (simp [plainName, overriddenIn]; done) | decide +kernel) | decide +kernel
theorem d1_0 : decode prog_29_method_1_code 0 = .ok (.aload_n 0, 1) := by decide +kernel
theorem d1_1 : decode prog_29_method_1_code 1 = .ok (.invokespecial 1, 3) := by decide +kernel
theorem d1_4 : decode prog_29_method_1_code 4 = .ok (.aload_n 0, 1) := by decide +kernel
theorem d1_5 : decode prog_29_method_1_code 5 = .ok (.sipush 128, 3) := by decide +kernel
theorem d1_8 : decode prog_29_method_1_code 8 = .ok (.newarray .byte, 2) := by decide +kernel
theorem d1_10 : decode prog_29_method_1_code 10 = .ok (.putfield 7, 3) := by decide +kernel
theorem d1_13 : decode prog_29_method_1_code 13 = .ok (.return_, 1) := by decide +kernel
theorem pf_3 : plainFor (⟨"com/example/hazusu/hazusu/StateBytes$Writer", "writeByte", "(I)V"⟩ : MethodName) = true := by first | exact plainFor_of_name (by first | (simp [plainName, overriddenIn]; done) | decide +kernel) | decide +kernel
theorem d3_0 : decode prog_29_method_2_code 0 = .ok (.aload_n 0, 1) := by decide +kernel
theorem d3_1 : decode prog_29_method_2_code 1 = .ok (.iconst 1, 1) := by decide +kernel
theorem d3_2 : decode prog_29_method_2_code 2 = .ok (.invokevirtual 13, 3) := by decide +kernel
theorem d3_5 : decode prog_29_method_2_code 5 = .ok (.aload_n 0, 1) := by decide +kernel
theorem d3_6 : decode prog_29_method_2_code 6 = .ok (.getfield 7, 3) := by decide +kernel
theorem d3_9 : decode prog_29_method_2_code 9 = .ok (.aload_n 0, 1) := by decide +kernel
theorem d3_10 : decode prog_29_method_2_code 10 = .ok (.dup, 1) := by decide +kernel
theorem d3_11 : decode prog_29_method_2_code 11 = .ok (.getfield 17, 3) := by decide +kernel
theorem d3_14 : decode prog_29_method_2_code 14 = .ok (.dup_x1, 1) := by decide +kernel
theorem d3_15 : decode prog_29_method_2_code 15 = .ok (.iconst 1, 1) := by decide +kernel
theorem d3_16 : decode prog_29_method_2_code 16 = .ok (.iadd, 1) := by decide +kernel
theorem d3_17 : decode prog_29_method_2_code 17 = .ok (.putfield 17, 3) := by decide +kernel
theorem d3_20 : decode prog_29_method_2_code 20 = .ok (.iload_n 1, 1) := by decide +kernel
theorem d3_21 : decode prog_29_method_2_code 21 = .ok (.i2b, 1) := by decide +kernel
theorem d3_22 : decode prog_29_method_2_code 22 = .ok (.bastore, 1) := by decide +kernel
theorem d3_23 : decode prog_29_method_2_code 23 = .ok (.return_, 1) := by decide +kernel
theorem pf_4 : plainFor (⟨"com/example/hazusu/hazusu/StateBytes$Writer", "room", "(I)V"⟩ : MethodName) = true := by first | exact plainFor_of_name (by first | (simp [plainName, overriddenIn]; done) | decide +kernel) | decide +kernel
theorem d4_0 : decode prog_29_method_9_code 0 = .ok (.aload_n 0, 1) := by decide +kernel
theorem d4_1 : decode prog_29_method_9_code 1 = .ok (.getfield 17, 3) := by decide +kernel
theorem d4_4 : decode prog_29_method_9_code 4 = .ok (.iload_n 1, 1) := by decide +kernel
theorem d4_5 : decode prog_29_method_9_code 5 = .ok (.iadd, 1) := by decide +kernel
theorem d4_6 : decode prog_29_method_9_code 6 = .ok (.aload_n 0, 1) := by decide +kernel
theorem d4_7 : decode prog_29_method_9_code 7 = .ok (.getfield 7, 3) := by decide +kernel
theorem d4_10 : decode prog_29_method_9_code 10 = .ok (.arraylength, 1) := by decide +kernel
theorem d4_11 : decode prog_29_method_9_code 11 = .ok (.if_icmp .le 30, 3) := by decide +kernel
theorem d4_14 : decode prog_29_method_9_code 14 = .ok (.aload_n 0, 1) := by decide +kernel
theorem d4_15 : decode prog_29_method_9_code 15 = .ok (.aload_n 0, 1) := by decide +kernel
theorem d4_16 : decode prog_29_method_9_code 16 = .ok (.getfield 7, 3) := by decide +kernel
theorem d4_19 : decode prog_29_method_9_code 19 = .ok (.iconst 2, 1) := by decide +kernel
theorem d4_20 : decode prog_29_method_9_code 20 = .ok (.aload_n 0, 1) := by decide +kernel
theorem d4_21 : decode prog_29_method_9_code 21 = .ok (.getfield 7, 3) := by decide +kernel
theorem d4_24 : decode prog_29_method_9_code 24 = .ok (.arraylength, 1) := by decide +kernel
theorem d4_25 : decode prog_29_method_9_code 25 = .ok (.imul, 1) := by decide +kernel
theorem d4_26 : decode prog_29_method_9_code 26 = .ok (.aload_n 0, 1) := by decide +kernel
theorem d4_27 : decode prog_29_method_9_code 27 = .ok (.getfield 17, 3) := by decide +kernel
theorem d4_30 : decode prog_29_method_9_code 30 = .ok (.iload_n 1, 1) := by decide +kernel
theorem d4_31 : decode prog_29_method_9_code 31 = .ok (.iadd, 1) := by decide +kernel
theorem d4_32 : decode prog_29_method_9_code 32 = .ok (.invokestatic 43, 3) := by decide +kernel
theorem d4_35 : decode prog_29_method_9_code 35 = .ok (.invokestatic 37, 3) := by decide +kernel
theorem d4_38 : decode prog_29_method_9_code 38 = .ok (.putfield 7, 3) := by decide +kernel
theorem d4_41 : decode prog_29_method_9_code 41 = .ok (.return_, 1) := by decide +kernel
theorem pf_5 : plainFor (⟨"com/example/hazusu/hazusu/StateBytes$Writer", "toByteArray", "()[B"⟩ : MethodName) = true := by first | exact plainFor_of_name (by first | (simp [plainName, overriddenIn]; done) | decide +kernel) | decide +kernel
theorem d5_0 : decode prog_29_method_8_code 0 = .ok (.aload_n 0, 1) := by decide +kernel
theorem d5_1 : decode prog_29_method_8_code 1 = .ok (.getfield 7, 3) := by decide +kernel
theorem d5_4 : decode prog_29_method_8_code 4 = .ok (.aload_n 0, 1) := by decide +kernel
theorem d5_5 : decode prog_29_method_8_code 5 = .ok (.getfield 17, 3) := by decide +kernel
theorem d5_8 : decode prog_29_method_8_code 8 = .ok (.invokestatic 37, 3) := by decide +kernel
theorem d5_11 : decode prog_29_method_8_code 11 = .ok (.areturn, 1) := by decide +kernel
theorem pf_6 : plainFor (⟨"java/util/Arrays", "copyOf", "([BI)[B"⟩ : MethodName) = true := by first | exact plainFor_of_name (by first | (simp [plainName, overriddenIn]; done) | decide +kernel) | decide +kernel
theorem d6_0 : decode jdk_65_method_121_code 0 = .ok (.iload_n 1, 1) := by decide +kernel
theorem d6_1 : decode jdk_65_method_121_code 1 = .ok (.aload_n 0, 1) := by decide +kernel
theorem d6_2 : decode jdk_65_method_121_code 2 = .ok (.arraylength, 1) := by decide +kernel
theorem d6_3 : decode jdk_65_method_121_code 3 = .ok (.if_icmp .ne 11, 3) := by decide +kernel
theorem d6_6 : decode jdk_65_method_121_code 6 = .ok (.aload_n 0, 1) := by decide +kernel
theorem d6_7 : decode jdk_65_method_121_code 7 = .ok (.invokevirtual 310, 3) := by decide +kernel
theorem d6_10 : decode jdk_65_method_121_code 10 = .ok (.checkcast 311, 3) := by decide +kernel
theorem d6_13 : decode jdk_65_method_121_code 13 = .ok (.areturn, 1) := by decide +kernel
theorem d6_14 : decode jdk_65_method_121_code 14 = .ok (.iload_n 1, 1) := by decide +kernel
theorem d6_15 : decode jdk_65_method_121_code 15 = .ok (.newarray .byte, 2) := by decide +kernel
theorem d6_17 : decode jdk_65_method_121_code 17 = .ok (.astore_n 2, 1) := by decide +kernel
theorem d6_18 : decode jdk_65_method_121_code 18 = .ok (.aload_n 0, 1) := by decide +kernel
theorem d6_19 : decode jdk_65_method_121_code 19 = .ok (.iconst 0, 1) := by decide +kernel
theorem d6_20 : decode jdk_65_method_121_code 20 = .ok (.aload_n 2, 1) := by decide +kernel
theorem d6_21 : decode jdk_65_method_121_code 21 = .ok (.iconst 0, 1) := by decide +kernel
theorem d6_22 : decode jdk_65_method_121_code 22 = .ok (.aload_n 0, 1) := by decide +kernel
theorem d6_23 : decode jdk_65_method_121_code 23 = .ok (.arraylength, 1) := by decide +kernel
theorem d6_24 : decode jdk_65_method_121_code 24 = .ok (.iload_n 1, 1) := by decide +kernel
theorem d6_25 : decode jdk_65_method_121_code 25 = .ok (.invokestatic 304, 3) := by decide +kernel
theorem d6_28 : decode jdk_65_method_121_code 28 = .ok (.invokestatic 150, 3) := by decide +kernel
theorem d6_31 : decode jdk_65_method_121_code 31 = .ok (.aload_n 2, 1) := by decide +kernel
theorem d6_32 : decode jdk_65_method_121_code 32 = .ok (.areturn, 1) := by decide +kernel
theorem pf_8 : plainFor (⟨"com/example/hazusu/hazusu/StateBytes$Writer", "writeBytes", "([B)V"⟩ : MethodName) = true := by first | exact plainFor_of_name (by first | (simp [plainName, overriddenIn]; done) | decide +kernel) | decide +kernel
theorem d8_0 : decode prog_29_method_3_code 0 = .ok (.aload_n 0, 1) := by decide +kernel
theorem d8_1 : decode prog_29_method_3_code 1 = .ok (.aload_n 1, 1) := by decide +kernel
theorem d8_2 : decode prog_29_method_3_code 2 = .ok (.arraylength, 1) := by decide +kernel
theorem d8_3 : decode prog_29_method_3_code 3 = .ok (.invokevirtual 13, 3) := by decide +kernel
theorem d8_6 : decode prog_29_method_3_code 6 = .ok (.aload_n 1, 1) := by decide +kernel
theorem d8_7 : decode prog_29_method_3_code 7 = .ok (.iconst 0, 1) := by decide +kernel
theorem d8_8 : decode prog_29_method_3_code 8 = .ok (.aload_n 0, 1) := by decide +kernel
theorem d8_9 : decode prog_29_method_3_code 9 = .ok (.getfield 7, 3) := by decide +kernel
theorem d8_12 : decode prog_29_method_3_code 12 = .ok (.aload_n 0, 1) := by decide +kernel
theorem d8_13 : decode prog_29_method_3_code 13 = .ok (.getfield 17, 3) := by decide +kernel
theorem d8_16 : decode prog_29_method_3_code 16 = .ok (.aload_n 1, 1) := by decide +kernel
theorem d8_17 : decode prog_29_method_3_code 17 = .ok (.arraylength, 1) := by decide +kernel
theorem d8_18 : decode prog_29_method_3_code 18 = .ok (.invokestatic 21, 3) := by decide +kernel
theorem d8_21 : decode prog_29_method_3_code 21 = .ok (.aload_n 0, 1) := by decide +kernel
theorem d8_22 : decode prog_29_method_3_code 22 = .ok (.dup, 1) := by decide +kernel
theorem d8_23 : decode prog_29_method_3_code 23 = .ok (.getfield 17, 3) := by decide +kernel
theorem d8_26 : decode prog_29_method_3_code 26 = .ok (.aload_n 1, 1) := by decide +kernel
theorem d8_27 : decode prog_29_method_3_code 27 = .ok (.arraylength, 1) := by decide +kernel
theorem d8_28 : decode prog_29_method_3_code 28 = .ok (.iadd, 1) := by decide +kernel
theorem d8_29 : decode prog_29_method_3_code 29 = .ok (.putfield 17, 3) := by decide +kernel
theorem d8_32 : decode prog_29_method_3_code 32 = .ok (.return_, 1) := by decide +kernel
theorem pf_9 : plainFor (⟨"java/lang/Math", "max", "(II)I"⟩ : MethodName) = true := by first | exact plainFor_of_name (by first | (simp [plainName, overriddenIn]; done) | decide +kernel) | decide +kernel
theorem d9_0 : decode jdk_29_method_65_code 0 = .ok (.iload_n 0, 1) := by decide +kernel
theorem d9_1 : decode jdk_29_method_65_code 1 = .ok (.iload_n 1, 1) := by decide +kernel
theorem d9_2 : decode jdk_29_method_65_code 2 = .ok (.if_icmp .lt 7, 3) := by decide +kernel
theorem d9_5 : decode jdk_29_method_65_code 5 = .ok (.iload_n 0, 1) := by decide +kernel
theorem d9_6 : decode jdk_29_method_65_code 6 = .ok (.goto 4, 3) := by decide +kernel
theorem d9_9 : decode jdk_29_method_65_code 9 = .ok (.iload_n 1, 1) := by decide +kernel
theorem d9_10 : decode jdk_29_method_65_code 10 = .ok (.ireturn, 1) := by decide +kernel
theorem pf_10 : plainFor (⟨"com/example/hazusu/hazusu/StateBytes$Writer", "clear", "()V"⟩ : MethodName) = true := by first | exact plainFor_of_name (by first | (simp [plainName, overriddenIn]; done) | decide +kernel) | decide +kernel
theorem d10_0 : decode prog_29_method_7_code 0 = .ok (.aload_n 0, 1) := by decide +kernel
theorem d10_1 : decode prog_29_method_7_code 1 = .ok (.iconst 0, 1) := by decide +kernel
theorem d10_2 : decode prog_29_method_7_code 2 = .ok (.putfield 17, 3) := by decide +kernel
theorem d10_5 : decode prog_29_method_7_code 5 = .ok (.return_, 1) := by decide +kernel
theorem pd___V : parseMethodDescriptor "()V" = some ⟨[], none⟩ := by decide +kernel
theorem pd____B : parseMethodDescriptor "()[B" = some ⟨[], (some (.array .byte))⟩ := by decide +kernel
theorem pd__I_V : parseMethodDescriptor "(I)V" = some ⟨[.int], none⟩ := by decide +kernel
theorem pd__II_I : parseMethodDescriptor "(II)I" = some ⟨[.int, .int], (some .int)⟩ := by decide +kernel
theorem pd___B_V : parseMethodDescriptor "([B)V" = some ⟨[(.array .byte)], none⟩ := by decide +kernel
theorem pd___BI__B : parseMethodDescriptor "([BI)[B" = some ⟨[(.array .byte), .int], (some (.array .byte))⟩ := by decide +kernel
theorem al_StateBytes_Writer (Z : State) (a0 : Array Value) (hw : ∀ d ∈ tables_1, d.before a0 Z = true) : ∀ f ∈ ([("com/example/hazusu/hazusu/StateBytes$Writer", "bytes", "[B"), ("com/example/hazusu/hazusu/StateBytes$Writer", "length", "I")] : List (String × String × String)), Laid Z a0 "com/example/hazusu/hazusu/StateBytes$Writer" f.1 f.2.1 f.2.2 ∧ ∃ t, parseFieldDescriptor f.2.2 = some t := by
  intro f hf
  simp only [List.mem_cons, List.not_mem_nil, or_false] at hf
  rcases hf with rfl | rfl
  · exact ⟨Or.inl (hw _ (List.mem_of_getElem? (i := 11) rfl)), (.array .byte), by decide⟩
  · exact ⟨Or.inl (hw _ (List.mem_of_getElem? (i := 22) rfl)), .int, by decide⟩
theorem pf_7 : plainFor (⟨"java/lang/Math", "min", "(II)I"⟩ : MethodName) = true := by first | exact plainFor_of_name (by first | (simp [plainName, overriddenIn]; done) | decide +kernel) | decide +kernel
theorem d7_0 : decode jdk_29_method_69_code 0 = .ok (.iload_n 0, 1) := by decide +kernel
theorem d7_1 : decode jdk_29_method_69_code 1 = .ok (.iload_n 1, 1) := by decide +kernel
theorem d7_2 : decode jdk_29_method_69_code 2 = .ok (.if_icmp .gt 7, 3) := by decide +kernel
theorem d7_5 : decode jdk_29_method_69_code 5 = .ok (.iload_n 0, 1) := by decide +kernel
theorem d7_6 : decode jdk_29_method_69_code 6 = .ok (.goto 4, 3) := by decide +kernel
theorem d7_9 : decode jdk_29_method_69_code 9 = .ok (.iload_n 1, 1) := by decide +kernel
theorem d7_10 : decode jdk_29_method_69_code 10 = .ok (.ireturn, 1) := by decide +kernel
def own_min (x z : Int32) : Int32 := if z.toInt < x.toInt then z else x
set_option maxRecDepth 65536 in
set_option maxHeartbeats 40000000 in
theorem ct_min (l : Launch) (Z : State) (h0 : Heap) (a0 : Array Value) (hw : ∀ d ∈ tables_1, d.before a0 Z = true) (ds : Hp) (x z : Int32) :
    Ct l Z h0 (⟨"java/lang/Math", "min", "(II)I"⟩ : MethodName) jdk_29_method_69_code 2 (some .int) [] ({ frames := 0, cells := 0, slots := 0, locals := 0 } : Room) #[(.int x), (.int z)] ds (fun v ds' => v = some (.int (own_min x z)) ∧ ds' = ds) := by
  refine Ct.of_go (Ls := #[.val (.int x), .val (.int z)]) pf_7 (fun m => by first | (simp [entryFrame, mkF, argsToLocals, Value.category, maxLocals]; done) | rfl) (fun W K => ?_)
  generalize hQ : (fun v ds' => v = some (.int (own_min x z)) ∧ ds' = ds : Option Value → Hp → Prop) = Q
  refine go_iloadN (pc' := 1) K d7_0 rfl rfl ?_
  refine go_iloadN (pc' := 2) K d7_1 rfl rfl ?_
  refine go_ic_gt (pt := 9) (pc' := 5) K d7_2 (by decide) (by decide) rfl (fun (hc2 : z.toInt < x.toInt) => ?_) (fun (hc2 : x.toInt ≤ z.toInt) => ?_)
  ·
    refine go_iloadN (pc' := 10) K d7_9 rfl rfl ?_
    exact go_iret K d7_10 (by decide) (by decide) (by subst hQ; refine ⟨?_, rfl⟩; unfold own_min; rw [if_pos hc2])
  ·
    refine go_iloadN (pc' := 6) K d7_5 rfl rfl ?_
    refine go_goto (pc' := 10) K d7_6 (by decide) (by decide) ?_
    exact go_iret K d7_10 (by decide) (by decide) (by subst hQ; refine ⟨?_, rfl⟩; unfold own_min; rw [if_neg (Int.not_lt.mpr hc2)])
def own_max (x z : Int32) : Int32 := if x.toInt < z.toInt then z else x
set_option maxRecDepth 65536 in
set_option maxHeartbeats 40000000 in
theorem ct_max (l : Launch) (Z : State) (h0 : Heap) (a0 : Array Value) (hw : ∀ d ∈ tables_1, d.before a0 Z = true) (ds : Hp) (x z : Int32) :
    Ct l Z h0 (⟨"java/lang/Math", "max", "(II)I"⟩ : MethodName) jdk_29_method_65_code 2 (some .int) [] ({ frames := 0, cells := 0, slots := 0, locals := 0 } : Room) #[(.int x), (.int z)] ds (fun v ds' => v = some (.int (own_max x z)) ∧ ds' = ds) := by
  refine Ct.of_go (Ls := #[.val (.int x), .val (.int z)]) pf_9 (fun m => by first | (simp [entryFrame, mkF, argsToLocals, Value.category, maxLocals]; done) | rfl) (fun W K => ?_)
  generalize hQ : (fun v ds' => v = some (.int (own_max x z)) ∧ ds' = ds : Option Value → Hp → Prop) = Q
  refine go_iloadN (pc' := 1) K d9_0 rfl rfl ?_
  refine go_iloadN (pc' := 2) K d9_1 rfl rfl ?_
  refine go_ic_lt (pt := 9) (pc' := 5) K d9_2 (by decide) (by decide) rfl (fun (hc2 : x.toInt < z.toInt) => ?_) (fun (hc2 : z.toInt ≤ x.toInt) => ?_)
  ·
    refine go_iloadN (pc' := 10) K d9_9 rfl rfl ?_
    exact go_iret K d9_10 (by decide) (by decide) (by subst hQ; refine ⟨?_, rfl⟩; unfold own_max; rw [if_pos hc2])
  ·
    refine go_iloadN (pc' := 6) K d9_5 rfl rfl ?_
    refine go_goto (pc' := 10) K d9_6 (by decide) (by decide) ?_
    exact go_iret K d9_10 (by decide) (by decide) (by subst hQ; refine ⟨?_, rfl⟩; unfold own_max; rw [if_neg (Int.not_lt.mpr hc2)])
def own_cp (xs : List Int32) (m : Nat) : List Int32 := xs.take m ++ List.replicate (m - xs.length) 0
def own_w (xs blk : List Int32) (j : Nat) : List Int32 := (own_cp xs 256).take j ++ (blk.drop 0).take 130 ++ (own_cp xs 256).drop (j + 130)
theorem own_cp_len (xs : List Int32) (m : Nat) : (own_cp xs m).length = m := by
  unfold own_cp; rw [List.length_append, List.length_take, List.length_replicate]; omega
theorem own_cp_eq (xs : List Int32) (m : Nat) : (List.replicate m (0 : Int32)).take 0 ++ (xs.drop 0).take (min xs.length m) ++ (List.replicate m (0 : Int32)).drop (0 + min xs.length m) = own_cp xs m := by
  unfold own_cp
  rw [List.take_zero, List.nil_append, List.drop_zero, Nat.zero_add, List.drop_replicate]
  congr 1
  · rw [List.take_eq_take_iff]; omega
  · congr 1; omega
theorem own_rep (m : Nat) : ∀ x ∈ List.replicate m (0 : Int32), fits .byte (.int x) = true := fun x hx => by rw [(List.mem_replicate.mp hx).2]; rfl
theorem own_cp_fit {xs : List Int32} (h : ∀ x ∈ xs, fits .byte (.int x) = true) (m : Nat) : ∀ x ∈ own_cp xs m, fits .byte (.int x) = true := fun x hx => by
  rcases List.mem_append.mp hx with q | q
  · exact h x (List.mem_of_mem_take q)
  · exact own_rep _ x q
theorem own_set_fit {xs : List Int32} (h : ∀ x ∈ xs, fits .byte (.int x) = true) (j : Nat) (v : Int32) : ∀ x ∈ xs.set j (nar .byte v), fits .byte (.int x) = true := fun x hx => by
  rcases List.mem_or_eq_of_mem_set hx with q | q
  · exact h x q
  · rw [q]; exact fits_nar_byte v
theorem own_cp_get {xs : List Int32} {m t : Nat} (h : t < m) (hx : t < xs.length) : (own_cp xs m)[t]? = xs[t]? := by
  unfold own_cp
  rw [List.getElem?_append_left (by rw [List.length_take]; omega), List.getElem?_take, if_pos h]
theorem own_w_len {xs blk : List Int32} {j : Nat} (hb : blk.length = 130) (hj : j ≤ 3) : (own_w xs blk j).length = 256 := by
  unfold own_w
  rw [List.length_append, List.length_append, List.length_take, List.length_take, List.length_drop, List.length_drop, own_cp_len, hb]; omega
theorem own_w_fit {xs blk : List Int32} {j : Nat} (h : ∀ x ∈ xs, fits .byte (.int x) = true) (hb : ∀ x ∈ blk, fits .byte (.int x) = true) : ∀ x ∈ own_w xs blk j, fits .byte (.int x) = true := fun x hx => by
  rcases List.mem_append.mp hx with q | q
  · rcases List.mem_append.mp q with q | q
    · exact own_cp_fit h _ x (List.mem_of_mem_take q)
    · exact hb x (List.mem_of_mem_drop (List.mem_of_mem_take q))
  · exact own_cp_fit h _ x (List.mem_of_mem_drop q)
theorem own_w_lo {xs blk : List Int32} {j t : Nat} (hx : xs.length = 128) (hj : j ≤ 3) (ht : t < j) : (own_w xs blk j)[t]? = xs[t]? := by
  unfold own_w
  rw [List.append_assoc, List.getElem?_append_left (by rw [List.length_take, own_cp_len]; omega), List.getElem?_take, if_pos ht, own_cp_get (by omega) (by omega)]
theorem own_w_hi {xs blk : List Int32} {j t : Nat} (hb : blk.length = 130) (hj : j ≤ 3) (ht : t < 130) : (own_w xs blk j)[j + t]? = blk[t]? := by
  unfold own_w
  have e : ((own_cp xs 256).take j).length = j := by rw [List.length_take, own_cp_len]; omega
  rw [List.append_assoc, List.getElem?_append_right (by omega), e, Nat.add_sub_cancel_left, List.getElem?_append_left (by rw [List.length_take, List.length_drop, hb]; omega), List.getElem?_take, if_pos ht, List.drop_zero]
set_option maxRecDepth 65536 in
set_option maxHeartbeats 40000000 in
theorem ct_copy (l : Launch) (Z : State) (h0 : Heap) (a0 : Array Value) (hw : ∀ d ∈ tables_1, d.before a0 Z = true) (ds : Hp) (i b m : Nat) (xs : List Int32) (k : Int32) (ha : ds[i]? = some (b, ba xs)) (hl : xs.length ≤ 256) (hm : m ≤ 256) (hne : m ≠ xs.length) (hfit : ∀ x ∈ xs, fits .byte (.int x) = true) (hk : k.toInt = (m : Int)) :
    Ct l Z h0 (⟨"java/util/Arrays", "copyOf", "([BI)[B"⟩ : MethodName) jdk_65_method_121_code 3 (some (.array .byte)) [] ({ frames := 1, cells := 1, slots := 256, locals := 48 } : Room) #[(.ref b), (.int k)] ds (fun v ds' => ∃ u : Nat, v = some (.ref u) ∧ ds' = ds ++ [(u, ba (own_cp xs m))]) := by
  refine Ct.of_go (Ls := #[.val (.ref b), .val (.int k), .unset]) pf_6 (fun m => by first | (simp [entryFrame, mkF, argsToLocals, Value.category, maxLocals]; done) | rfl) (fun W K => ?_)
  generalize hQ : (fun v ds' => ∃ u : Nat, v = some (.ref u) ∧ ds' = ds ++ [(u, ba (own_cp xs m))] : Option Value → Hp → Prop) = Q
  refine go_iloadN (pc' := 1) K d6_0 rfl rfl ?_
  refine go_aloadN (pc' := 2) K d6_1 rfl rfl rfl ?_
  refine go_alen (pc' := 3) (i := i) (z := xs.length.toInt32) K ha d6_2 (by rw [List.length_map]) rfl ?_
  refine go_ic_ne_t (pc' := 14) K d6_3 (fun q => hne (by have z := congrArg Int32.toInt q; rw [len32 (by omega)] at z; omega)) (by decide) (by decide) ?_
  refine go_iloadN (pc' := 15) K d6_14 rfl rfl ?_
  refine go_newB (pc' := 17) (m := m) (cap := 256) K (hw _ (List.mem_of_getElem? (i := 9) rfl)) d6_15 hk (by omega) (by decide) (by decide) (by decide) rfl (fun u hgu hlu => ?_)
  show Go W Q (ds ++ [(u, ba (List.replicate m 0))]) 1 256 17 #[.val (.ref b), .val (.int k), .unset] [(.ref u)]
  refine go_astoreN (pc' := 18) (Ls' := #[.val (.ref b), .val (.int k), .val (.ref u)]) K d6_17 rfl rfl rfl ?_
  refine go_aloadN (pc' := 19) K d6_18 rfl rfl rfl ?_
  refine go_iconst (pc' := 20) (v := 0) K d6_19 rfl rfl ?_
  refine go_aloadN (pc' := 21) K d6_20 rfl rfl rfl ?_
  refine go_iconst (pc' := 22) (v := 0) K d6_21 rfl rfl ?_
  refine go_aloadN (pc' := 23) K d6_22 rfl rfl rfl ?_
  refine go_alen (pc' := 24) (i := i) (z := xs.length.toInt32) K (at_left ha) d6_23 (by rw [List.length_map]) rfl ?_
  refine go_iloadN (pc' := 25) K d6_24 rfl rfl ?_
  refine go_static (pc' := 28) (Wd := 4) (y' := ⟨"java/lang/Math", "min", "(II)I"⟩) (argsL := [(.int xs.length.toInt32), (.int k)]) (rest := [(.int 0), (.ref u), (.int 0), (.ref b)]) K (hw _ (List.mem_of_getElem? (i := 32) rfl)) (hw _ (List.mem_of_getElem? (i := 33) rfl)) (hw _ (List.mem_of_getElem? (i := 34) rfl)) (hw _ (List.mem_of_getElem? (i := 35) rfl)) d6_25 (ct_min l Z h0 a0 hw _ xs.length.toInt32 k) (lenOf pd__II_I rfl) rfl rfl (by decide) rfl (by decide) (by decide) (by decide) (by decide) rfl ?_
  rintro _ ds' ⟨rfl, hds⟩
  rw [hds]
  show Go W Q (ds ++ [(u, ba (List.replicate m 0))]) 1 256 28 #[.val (.ref b), .val (.int k), .val (.ref u)] [(.int (own_min xs.length.toInt32 k)), (.int 0), (.ref u), (.int 0), (.ref b)]
  have hmn : (own_min xs.length.toInt32 k).toInt = ((min xs.length m : Nat) : Int) := by
    unfold own_min
    have e : xs.length.toInt32.toInt = (xs.length : Int) := len32 (by omega)
    by_cases c : k.toInt < xs.length.toInt32.toInt
    · rw [if_pos c]; omega
    · rw [if_neg c]; omega
  refine go_acopy (pc' := 31) (Wd := 0) (i := i) (j := ds.length) (sp := 0) (dp := 0) (m := (min xs.length m)) (xs := xs) (ys := (List.replicate m 0)) (ds' := ds ++ [(u, ba (own_cp xs m))]) K (hw _ (List.mem_of_getElem? (i := 36) rfl)) (hw _ (List.mem_of_getElem? (i := 39) rfl)) (hw _ (List.mem_of_getElem? (i := 37) rfl)) (hw _ (List.mem_of_getElem? (i := 38) rfl)) (at_left ha) at_last (by omega) (by rw [List.length_replicate]; omega) hfit (own_rep m) rfl rfl hmn (by omega) (by rw [List.length_replicate]; omega) d6_28 rfl rfl (by decide) (by decide) rfl (by rw [set_last, own_cp_eq xs m]) ?_
  refine go_aloadN (pc' := 32) K d6_31 rfl rfl rfl ?_
  exact go_aret K rfl d6_32 (by decide) (by decide) (by subst hQ; exact ⟨u, rfl, rfl⟩)
set_option maxRecDepth 65536 in
set_option maxHeartbeats 40000000 in
theorem ct_init (l : Launch) (Z : State) (h0 : Heap) (a0 : Array Value) (hw : ∀ d ∈ tables_1, d.before a0 Z = true) (o : Nat) :
    Ct l Z h0 (⟨"com/example/hazusu/hazusu/StateBytes$Writer", "<init>", "()V"⟩ : MethodName) prog_29_method_1_code 1 none [] ({ frames := 1, cells := 1, slots := 128, locals := 14 } : Room) #[(.ref o)] [(o, .inr ("com/example/hazusu/hazusu/StateBytes$Writer", [(("com/example/hazusu/hazusu/StateBytes$Writer", "bytes", "[B"), .null), (("com/example/hazusu/hazusu/StateBytes$Writer", "length", "I"), .int 0)]))] (fun v ds' => ∃ u : Nat, v = none ∧ ds' = [(o, .inr ("com/example/hazusu/hazusu/StateBytes$Writer", [(("com/example/hazusu/hazusu/StateBytes$Writer", "bytes", "[B"), .ref u), (("com/example/hazusu/hazusu/StateBytes$Writer", "length", "I"), .int 0)])), (u, ba (List.replicate 128 0))]) := by
  refine Ct.of_go (Ls := #[.val (.ref o)]) pf_1 (fun m => by first | (simp [entryFrame, mkF, argsToLocals, Value.category, maxLocals]; done) | rfl) (fun W K => ?_)
  generalize hQ : (fun v ds' => ∃ u : Nat, v = none ∧ ds' = [(o, .inr ("com/example/hazusu/hazusu/StateBytes$Writer", [(("com/example/hazusu/hazusu/StateBytes$Writer", "bytes", "[B"), .ref u), (("com/example/hazusu/hazusu/StateBytes$Writer", "length", "I"), .int 0)])), (u, ba (List.replicate 128 0))] : Option Value → Hp → Prop) = Q
  refine go_aloadN (pc' := 1) K d1_0 rfl rfl rfl ?_
  refine go_objinit (pc' := 4) (Wd := 0) K (hw _ (List.mem_of_getElem? (i := 6) rfl)) (hw _ (List.mem_of_getElem? (i := 7) rfl)) (hw _ (List.mem_of_getElem? (i := 8) rfl)) d1_1 rfl rfl (by decide) (by decide) rfl ?_
  refine go_aloadN (pc' := 5) K d1_4 rfl rfl rfl ?_
  refine go_sipush (pc' := 8) (v := 128) K d1_5 (by decide) rfl ?_
  refine go_newB (pc' := 10) (m := 128) (cap := 128) K (hw _ (List.mem_of_getElem? (i := 9) rfl)) d1_8 (by decide) (by decide) (by decide) (by decide) (by decide) rfl (fun u hgu hlu => ?_)
  show Go W Q [(o, .inr ("com/example/hazusu/hazusu/StateBytes$Writer", [(("com/example/hazusu/hazusu/StateBytes$Writer", "bytes", "[B"), .null), (("com/example/hazusu/hazusu/StateBytes$Writer", "length", "I"), .int 0)])), (u, ba (List.replicate 128 0))] 1 128 10 #[.val (.ref o)] [(.ref u), (.ref o)]
  refine go_putfield (pc' := 13) (i := 0) (j := 0) (ty := (.array .byte)) (ds' := [(o, .inr ("com/example/hazusu/hazusu/StateBytes$Writer", [(("com/example/hazusu/hazusu/StateBytes$Writer", "bytes", "[B"), .ref u), (("com/example/hazusu/hazusu/StateBytes$Writer", "length", "I"), .int 0)])), (u, ba (List.replicate 128 0))]) (KS := [("com/example/hazusu/hazusu/StateBytes$Writer", "bytes", "[B"), ("com/example/hazusu/hazusu/StateBytes$Writer", "length", "I")]) K (hw _ (List.mem_of_getElem? (i := 10) rfl)) (Or.inl (hw _ (List.mem_of_getElem? (i := 11) rfl))) (hw _ (List.mem_of_getElem? (i := 1) rfl)) rfl rfl rfl (al_StateBytes_Writer Z a0 hw) (by decide) (by decide) rfl rfl d1_10 rfl rfl ?_
  exact go_ret K d1_13 (by decide) (by decide) (by subst hQ; exact ⟨u, rfl, rfl⟩)
set_option maxRecDepth 65536 in
set_option maxHeartbeats 40000000 in
theorem ct_room1 (l : Launch) (Z : State) (h0 : Heap) (a0 : Array Value) (hw : ∀ d ∈ tables_1, d.before a0 Z = true) (dt : Hp) (iu o u j : Nat) (xs : List Int32) (ln : Int32) (hu : dt[iu]? = some (u, ba xs)) (hx : xs.length = 128) (hln : ln.toInt = (j : Int)) (hj : j < 128) :
    Ct l Z h0 (⟨"com/example/hazusu/hazusu/StateBytes$Writer", "room", "(I)V"⟩ : MethodName) prog_29_method_9_code 2 none [] ({ frames := 0, cells := 0, slots := 0, locals := 0 } : Room) #[(.ref o), (.int 1)] ((o, .inr ("com/example/hazusu/hazusu/StateBytes$Writer", [(("com/example/hazusu/hazusu/StateBytes$Writer", "bytes", "[B"), .ref u), (("com/example/hazusu/hazusu/StateBytes$Writer", "length", "I"), .int ln)])) :: dt) (fun v ds' => v = none ∧ ds' = (o, .inr ("com/example/hazusu/hazusu/StateBytes$Writer", [(("com/example/hazusu/hazusu/StateBytes$Writer", "bytes", "[B"), .ref u), (("com/example/hazusu/hazusu/StateBytes$Writer", "length", "I"), .int ln)])) :: dt) := by
  refine Ct.of_go (Ls := #[.val (.ref o), .val (.int 1)]) pf_4 (fun m => by first | (simp [entryFrame, mkF, argsToLocals, Value.category, maxLocals]; done) | rfl) (fun W K => ?_)
  generalize hQ : (fun v ds' => v = none ∧ ds' = (o, .inr ("com/example/hazusu/hazusu/StateBytes$Writer", [(("com/example/hazusu/hazusu/StateBytes$Writer", "bytes", "[B"), .ref u), (("com/example/hazusu/hazusu/StateBytes$Writer", "length", "I"), .int ln)])) :: dt : Option Value → Hp → Prop) = Q
  refine go_aloadN (pc' := 1) K d4_0 rfl rfl rfl ?_
  refine go_getfield (pc' := 4) (i := 0) (j := 1) K (hw _ (List.mem_of_getElem? (i := 21) rfl)) rfl rfl d4_1 rfl ?_
  refine go_iloadN (pc' := 5) K d4_4 rfl rfl ?_
  refine go_iadd (pc' := 6) K d4_5 rfl ?_
  refine go_aloadN (pc' := 7) K d4_6 rfl rfl rfl ?_
  refine go_getfield (pc' := 10) (i := 0) (j := 0) K (hw _ (List.mem_of_getElem? (i := 10) rfl)) rfl rfl d4_7 rfl ?_
  refine go_alen (pc' := 11) (i := (iu + 1)) (z := xs.length.toInt32) K (List.getElem?_cons_succ.trans hu) d4_10 (by rw [List.length_map]) rfl ?_
  refine go_ic_le_t (pc' := 41) K d4_11 (by have q1 : (1 : Int32).toInt = 1 := rfl; rw [iadd_eq (by rw [q1]; omega) (by rw [q1]; omega), q1, len32 (by omega)]; omega) (by decide) (by decide) ?_
  exact go_ret K d4_41 (by decide) (by decide) (by subst hQ; exact ⟨rfl, rfl⟩)
set_option maxRecDepth 65536 in
set_option maxHeartbeats 40000000 in
theorem ct_room2 (l : Launch) (Z : State) (h0 : Heap) (a0 : Array Value) (hw : ∀ d ∈ tables_1, d.before a0 Z = true) (dt : Hp) (iu o u j : Nat) (xs : List Int32) (ln : Int32) (hu : dt[iu]? = some (u, ba xs)) (hx : xs.length = 128) (hfit : ∀ x ∈ xs, fits .byte (.int x) = true) (hln : ln.toInt = (j : Int)) (hj : j ≤ 3) :
    Ct l Z h0 (⟨"com/example/hazusu/hazusu/StateBytes$Writer", "room", "(I)V"⟩ : MethodName) prog_29_method_9_code 2 none [] ({ frames := 2, cells := 1, slots := 256, locals := 64 } : Room) #[(.ref o), (.int 130)] ((o, .inr ("com/example/hazusu/hazusu/StateBytes$Writer", [(("com/example/hazusu/hazusu/StateBytes$Writer", "bytes", "[B"), .ref u), (("com/example/hazusu/hazusu/StateBytes$Writer", "length", "I"), .int ln)])) :: dt) (fun v ds' => ∃ u2 : Nat, v = none ∧ ds' = (o, .inr ("com/example/hazusu/hazusu/StateBytes$Writer", [(("com/example/hazusu/hazusu/StateBytes$Writer", "bytes", "[B"), .ref u2), (("com/example/hazusu/hazusu/StateBytes$Writer", "length", "I"), .int ln)])) :: (dt ++ [(u2, ba (own_cp xs 256))])) := by
  refine Ct.of_go (Ls := #[.val (.ref o), .val (.int 130)]) pf_4 (fun m => by first | (simp [entryFrame, mkF, argsToLocals, Value.category, maxLocals]; done) | rfl) (fun W K => ?_)
  generalize hQ : (fun v ds' => ∃ u2 : Nat, v = none ∧ ds' = (o, .inr ("com/example/hazusu/hazusu/StateBytes$Writer", [(("com/example/hazusu/hazusu/StateBytes$Writer", "bytes", "[B"), .ref u2), (("com/example/hazusu/hazusu/StateBytes$Writer", "length", "I"), .int ln)])) :: (dt ++ [(u2, ba (own_cp xs 256))]) : Option Value → Hp → Prop) = Q
  refine go_aloadN (pc' := 1) K d4_0 rfl rfl rfl ?_
  refine go_getfield (pc' := 4) (i := 0) (j := 1) K (hw _ (List.mem_of_getElem? (i := 21) rfl)) rfl rfl d4_1 rfl ?_
  refine go_iloadN (pc' := 5) K d4_4 rfl rfl ?_
  have q130 : (130 : Int32).toInt = 130 := rfl
  have e1 : (ln + 130).toInt = (j : Int) + 130 := by rw [iadd_eq (by rw [q130]; omega) (by rw [q130]; omega), q130]; omega
  refine go_iadd (pc' := 6) K d4_5 rfl ?_
  refine go_aloadN (pc' := 7) K d4_6 rfl rfl rfl ?_
  refine go_getfield (pc' := 10) (i := 0) (j := 0) K (hw _ (List.mem_of_getElem? (i := 10) rfl)) rfl rfl d4_7 rfl ?_
  refine go_alen (pc' := 11) (i := (iu + 1)) (z := 128) K (List.getElem?_cons_succ.trans hu) d4_10 (by rw [List.length_map, hx]; rfl) rfl ?_
  refine go_ic_le_f (pc' := 14) K d4_11 (by have q : (128 : Int32).toInt = 128 := rfl; omega) rfl ?_
  refine go_aloadN (pc' := 15) K d4_14 rfl rfl rfl ?_
  refine go_aloadN (pc' := 16) K d4_15 rfl rfl rfl ?_
  refine go_getfield (pc' := 19) (i := 0) (j := 0) K (hw _ (List.mem_of_getElem? (i := 10) rfl)) rfl rfl d4_16 rfl ?_
  refine go_iconst (pc' := 20) (v := 2) K d4_19 rfl rfl ?_
  refine go_aloadN (pc' := 21) K d4_20 rfl rfl rfl ?_
  refine go_getfield (pc' := 24) (i := 0) (j := 0) K (hw _ (List.mem_of_getElem? (i := 10) rfl)) rfl rfl d4_21 rfl ?_
  refine go_alen (pc' := 25) (i := (iu + 1)) (z := 128) K (List.getElem?_cons_succ.trans hu) d4_24 (by rw [List.length_map, hx]; rfl) rfl ?_
  refine go_imul (pc' := 26) K d4_25 rfl ?_
  rw [show ((2 * 128) : Int32) = 256 from by decide]
  refine go_aloadN (pc' := 27) K d4_26 rfl rfl rfl ?_
  refine go_getfield (pc' := 30) (i := 0) (j := 1) K (hw _ (List.mem_of_getElem? (i := 21) rfl)) rfl rfl d4_27 rfl ?_
  refine go_iloadN (pc' := 31) K d4_30 rfl rfl ?_
  refine go_iadd (pc' := 32) K d4_31 rfl ?_
  refine go_static (pc' := 35) (Wd := 2) (y' := ⟨"java/lang/Math", "max", "(II)I"⟩) (argsL := [(.int 256), (.int (ln + 130))]) (rest := [(.ref u), (.ref o)]) K (hw _ (List.mem_of_getElem? (i := 45) rfl)) (hw _ (List.mem_of_getElem? (i := 46) rfl)) (hw _ (List.mem_of_getElem? (i := 34) rfl)) (hw _ (List.mem_of_getElem? (i := 47) rfl)) d4_32 (ct_max l Z h0 a0 hw _ 256 (ln + 130)) (lenOf pd__II_I rfl) rfl rfl (by decide) rfl (by decide) (by decide) (by decide) (by decide) rfl ?_
  rintro _ ds' ⟨rfl, hds⟩
  rw [hds]
  rw [show own_max 256 (ln + 130) = 256 from if_neg (by have q : (256 : Int32).toInt = 256 := rfl; omega)]
  show Go W Q ((o, .inr ("com/example/hazusu/hazusu/StateBytes$Writer", [(("com/example/hazusu/hazusu/StateBytes$Writer", "bytes", "[B"), .ref u), (("com/example/hazusu/hazusu/StateBytes$Writer", "length", "I"), .int ln)])) :: dt) 0 0 35 #[.val (.ref o), .val (.int 130)] [(.int 256), (.ref u), (.ref o)]
  refine go_static (pc' := 38) (Wd := 1) (y' := ⟨"java/util/Arrays", "copyOf", "([BI)[B"⟩) (argsL := [(.ref u), (.int 256)]) (rest := [(.ref o)]) K (hw _ (List.mem_of_getElem? (i := 28) rfl)) (hw _ (List.mem_of_getElem? (i := 29) rfl)) (hw _ (List.mem_of_getElem? (i := 30) rfl)) (hw _ (List.mem_of_getElem? (i := 31) rfl)) d4_35 (ct_copy l Z h0 a0 hw ((o, .inr ("com/example/hazusu/hazusu/StateBytes$Writer", [(("com/example/hazusu/hazusu/StateBytes$Writer", "bytes", "[B"), .ref u), (("com/example/hazusu/hazusu/StateBytes$Writer", "length", "I"), .int ln)])) :: dt) (iu + 1) u 256 xs 256 (List.getElem?_cons_succ.trans hu) (by omega) (by omega) (by omega) hfit rfl) (lenOf pd___BI__B rfl) rfl rfl (by decide) rfl (by decide) (by decide) (by decide) (by decide) rfl ?_
  rintro _ ds' ⟨u2, rfl, hds⟩
  rw [hds]
  show Go W Q ((o, .inr ("com/example/hazusu/hazusu/StateBytes$Writer", [(("com/example/hazusu/hazusu/StateBytes$Writer", "bytes", "[B"), .ref u), (("com/example/hazusu/hazusu/StateBytes$Writer", "length", "I"), .int ln)])) :: (dt ++ [(u2, ba (own_cp xs 256))])) 1 256 38 #[.val (.ref o), .val (.int 130)] [(.ref u2), (.ref o)]
  refine go_putfield (pc' := 41) (i := 0) (j := 0) (ty := (.array .byte)) (ds' := (o, .inr ("com/example/hazusu/hazusu/StateBytes$Writer", [(("com/example/hazusu/hazusu/StateBytes$Writer", "bytes", "[B"), .ref u2), (("com/example/hazusu/hazusu/StateBytes$Writer", "length", "I"), .int ln)])) :: (dt ++ [(u2, ba (own_cp xs 256))])) (KS := [("com/example/hazusu/hazusu/StateBytes$Writer", "bytes", "[B"), ("com/example/hazusu/hazusu/StateBytes$Writer", "length", "I")]) K (hw _ (List.mem_of_getElem? (i := 10) rfl)) (Or.inl (hw _ (List.mem_of_getElem? (i := 11) rfl))) (hw _ (List.mem_of_getElem? (i := 1) rfl)) rfl rfl rfl (al_StateBytes_Writer Z a0 hw) (by decide) (by decide) rfl rfl d4_38 rfl rfl ?_
  exact go_ret K d4_41 (by decide) (by decide) (by subst hQ; exact ⟨u2, rfl, rfl⟩)
set_option maxRecDepth 65536 in
set_option maxHeartbeats 40000000 in
theorem ct_wb (l : Launch) (Z : State) (h0 : Heap) (a0 : Array Value) (hw : ∀ d ∈ tables_1, d.before a0 Z = true) (dt : Hp) (iu o u j : Nat) (xs : List Int32) (ln v : Int32) (hu : dt[iu]? = some (u, ba xs)) (hx : xs.length = 128) (hln : ln.toInt = (j : Int)) (hj : j ≤ 3) :
    Ct l Z h0 (⟨"com/example/hazusu/hazusu/StateBytes$Writer", "writeByte", "(I)V"⟩ : MethodName) prog_29_method_2_code 2 none [] ({ frames := 1, cells := 0, slots := 0, locals := 16 } : Room) #[(.ref o), (.int v)] ((o, .inr ("com/example/hazusu/hazusu/StateBytes$Writer", [(("com/example/hazusu/hazusu/StateBytes$Writer", "bytes", "[B"), .ref u), (("com/example/hazusu/hazusu/StateBytes$Writer", "length", "I"), .int ln)])) :: dt) (fun w ds' => w = none ∧ ds' = (o, .inr ("com/example/hazusu/hazusu/StateBytes$Writer", [(("com/example/hazusu/hazusu/StateBytes$Writer", "bytes", "[B"), .ref u), (("com/example/hazusu/hazusu/StateBytes$Writer", "length", "I"), .int (ln + 1))])) :: (dt.set iu (u, ba (xs.set j (nar .byte v.toInt8.toInt32))))) := by
  refine Ct.of_go (Ls := #[.val (.ref o), .val (.int v)]) pf_3 (fun m => by first | (simp [entryFrame, mkF, argsToLocals, Value.category, maxLocals]; done) | rfl) (fun W K => ?_)
  generalize hQ : (fun w ds' => w = none ∧ ds' = (o, .inr ("com/example/hazusu/hazusu/StateBytes$Writer", [(("com/example/hazusu/hazusu/StateBytes$Writer", "bytes", "[B"), .ref u), (("com/example/hazusu/hazusu/StateBytes$Writer", "length", "I"), .int (ln + 1))])) :: (dt.set iu (u, ba (xs.set j (nar .byte v.toInt8.toInt32)))) : Option Value → Hp → Prop) = Q
  refine go_aloadN (pc' := 1) K d3_0 rfl rfl rfl ?_
  refine go_iconst (pc' := 2) (v := 1) K d3_1 rfl rfl ?_
  refine go_private (pc' := 5) (Wd := 0) (i := 0) (y' := ⟨"com/example/hazusu/hazusu/StateBytes$Writer", "room", "(I)V"⟩) (b := o) (argsL := [(.int 1)]) (rest := []) K (hw _ (List.mem_of_getElem? (i := 17) rfl)) (hw _ (List.mem_of_getElem? (i := 18) rfl)) (hw _ (List.mem_of_getElem? (i := 19) rfl)) (hw _ (List.mem_of_getElem? (i := 1) rfl)) (hw _ (List.mem_of_getElem? (i := 2) rfl)) (hw _ (List.mem_of_getElem? (i := 20) rfl)) rfl d3_2 (ct_room1 l Z h0 a0 hw dt iu o u j xs ln hu hx hln (by omega)) (lenOf pd__I_V rfl) rfl rfl (by decide) rfl (by decide) (by decide) (by decide) (by decide) rfl ?_
  rintro _ ds' ⟨rfl, hds⟩
  rw [hds]
  show Go W Q ((o, .inr ("com/example/hazusu/hazusu/StateBytes$Writer", [(("com/example/hazusu/hazusu/StateBytes$Writer", "bytes", "[B"), .ref u), (("com/example/hazusu/hazusu/StateBytes$Writer", "length", "I"), .int ln)])) :: dt) 0 0 5 #[.val (.ref o), .val (.int v)] []
  refine go_aloadN (pc' := 6) K d3_5 rfl rfl rfl ?_
  refine go_getfield (pc' := 9) (i := 0) (j := 0) K (hw _ (List.mem_of_getElem? (i := 10) rfl)) rfl rfl d3_6 rfl ?_
  refine go_aloadN (pc' := 10) K d3_9 rfl rfl rfl ?_
  refine go_dup (pc' := 11) K d3_10 rfl rfl ?_
  refine go_getfield (pc' := 14) (i := 0) (j := 1) K (hw _ (List.mem_of_getElem? (i := 21) rfl)) rfl rfl d3_11 rfl ?_
  refine go_dup_x1 (pc' := 15) K d3_14 rfl rfl rfl ?_
  refine go_iconst (pc' := 16) (v := 1) K d3_15 rfl rfl ?_
  refine go_iadd (pc' := 17) K d3_16 rfl ?_
  refine go_putfield (pc' := 20) (i := 0) (j := 1) (ty := .int) (ds' := (o, .inr ("com/example/hazusu/hazusu/StateBytes$Writer", [(("com/example/hazusu/hazusu/StateBytes$Writer", "bytes", "[B"), .ref u), (("com/example/hazusu/hazusu/StateBytes$Writer", "length", "I"), .int (ln + 1))])) :: dt) (KS := [("com/example/hazusu/hazusu/StateBytes$Writer", "bytes", "[B"), ("com/example/hazusu/hazusu/StateBytes$Writer", "length", "I")]) K (hw _ (List.mem_of_getElem? (i := 21) rfl)) (Or.inl (hw _ (List.mem_of_getElem? (i := 22) rfl))) (hw _ (List.mem_of_getElem? (i := 1) rfl)) rfl rfl rfl (al_StateBytes_Writer Z a0 hw) (by decide) (by decide) rfl rfl d3_17 rfl rfl ?_
  refine go_iloadN (pc' := 21) K d3_20 rfl rfl ?_
  refine go_i2b (pc' := 22) K d3_21 rfl ?_
  refine go_bastore (pc' := 23) (i := (iu + 1)) (m := j) (ds' := (o, .inr ("com/example/hazusu/hazusu/StateBytes$Writer", [(("com/example/hazusu/hazusu/StateBytes$Writer", "bytes", "[B"), .ref u), (("com/example/hazusu/hazusu/StateBytes$Writer", "length", "I"), .int (ln + 1))])) :: (dt.set iu (u, ba (xs.set j (nar .byte v.toInt8.toInt32))))) K (List.getElem?_cons_succ.trans hu) d3_22 hln (by omega) rfl rfl ?_
  exact go_ret K d3_23 (by decide) (by decide) (by subst hQ; exact ⟨rfl, rfl⟩)
set_option maxRecDepth 65536 in
set_option maxHeartbeats 40000000 in
theorem ct_clear (l : Launch) (Z : State) (h0 : Heap) (a0 : Array Value) (hw : ∀ d ∈ tables_1, d.before a0 Z = true) (dt : Hp) (o u : Nat) (ln : Int32) :
    Ct l Z h0 (⟨"com/example/hazusu/hazusu/StateBytes$Writer", "clear", "()V"⟩ : MethodName) prog_29_method_7_code 1 none [] ({ frames := 0, cells := 0, slots := 0, locals := 0 } : Room) #[(.ref o)] ((o, .inr ("com/example/hazusu/hazusu/StateBytes$Writer", [(("com/example/hazusu/hazusu/StateBytes$Writer", "bytes", "[B"), .ref u), (("com/example/hazusu/hazusu/StateBytes$Writer", "length", "I"), .int ln)])) :: dt) (fun w ds' => w = none ∧ ds' = (o, .inr ("com/example/hazusu/hazusu/StateBytes$Writer", [(("com/example/hazusu/hazusu/StateBytes$Writer", "bytes", "[B"), .ref u), (("com/example/hazusu/hazusu/StateBytes$Writer", "length", "I"), .int 0)])) :: dt) := by
  refine Ct.of_go (Ls := #[.val (.ref o)]) pf_10 (fun m => by first | (simp [entryFrame, mkF, argsToLocals, Value.category, maxLocals]; done) | rfl) (fun W K => ?_)
  generalize hQ : (fun w ds' => w = none ∧ ds' = (o, .inr ("com/example/hazusu/hazusu/StateBytes$Writer", [(("com/example/hazusu/hazusu/StateBytes$Writer", "bytes", "[B"), .ref u), (("com/example/hazusu/hazusu/StateBytes$Writer", "length", "I"), .int 0)])) :: dt : Option Value → Hp → Prop) = Q
  refine go_aloadN (pc' := 1) K d10_0 rfl rfl rfl ?_
  refine go_iconst (pc' := 2) (v := 0) K d10_1 rfl rfl ?_
  refine go_putfield (pc' := 5) (i := 0) (j := 1) (ty := .int) (ds' := (o, .inr ("com/example/hazusu/hazusu/StateBytes$Writer", [(("com/example/hazusu/hazusu/StateBytes$Writer", "bytes", "[B"), .ref u), (("com/example/hazusu/hazusu/StateBytes$Writer", "length", "I"), .int 0)])) :: dt) (KS := [("com/example/hazusu/hazusu/StateBytes$Writer", "bytes", "[B"), ("com/example/hazusu/hazusu/StateBytes$Writer", "length", "I")]) K (hw _ (List.mem_of_getElem? (i := 21) rfl)) (Or.inl (hw _ (List.mem_of_getElem? (i := 22) rfl))) (hw _ (List.mem_of_getElem? (i := 1) rfl)) rfl rfl rfl (al_StateBytes_Writer Z a0 hw) (by decide) (by decide) rfl rfl d10_2 rfl rfl ?_
  exact go_ret K d10_5 (by decide) (by decide) (by subst hQ; exact ⟨rfl, rfl⟩)
set_option maxRecDepth 65536 in
set_option maxHeartbeats 40000000 in
theorem ct_wbs (l : Launch) (Z : State) (h0 : Heap) (a0 : Array Value) (hw : ∀ d ∈ tables_1, d.before a0 Z = true) (dt : Hp) (iu ik o u kb j : Nat) (xs blk : List Int32) (ln : Int32) (hu : dt[iu]? = some (u, ba xs)) (hk : dt[ik]? = some (kb, ba blk)) (hx : xs.length = 128) (hb : blk.length = 130) (hfit : ∀ x ∈ xs, fits .byte (.int x) = true) (hbf : ∀ x ∈ blk, fits .byte (.int x) = true) (hln : ln.toInt = (j : Int)) (hj : j ≤ 3) :
    Ct l Z h0 (⟨"com/example/hazusu/hazusu/StateBytes$Writer", "writeBytes", "([B)V"⟩ : MethodName) prog_29_method_3_code 2 none [] ({ frames := 3, cells := 1, slots := 256, locals := 80 } : Room) #[(.ref o), (.ref kb)] ((o, .inr ("com/example/hazusu/hazusu/StateBytes$Writer", [(("com/example/hazusu/hazusu/StateBytes$Writer", "bytes", "[B"), .ref u), (("com/example/hazusu/hazusu/StateBytes$Writer", "length", "I"), .int ln)])) :: dt) (fun w ds' => ∃ u2 : Nat, w = none ∧ ds' = (o, .inr ("com/example/hazusu/hazusu/StateBytes$Writer", [(("com/example/hazusu/hazusu/StateBytes$Writer", "bytes", "[B"), .ref u2), (("com/example/hazusu/hazusu/StateBytes$Writer", "length", "I"), .int (ln + 130))])) :: (dt ++ [(u2, ba (own_w xs blk j))])) := by
  refine Ct.of_go (Ls := #[.val (.ref o), .val (.ref kb)]) pf_8 (fun m => by first | (simp [entryFrame, mkF, argsToLocals, Value.category, maxLocals]; done) | rfl) (fun W K => ?_)
  generalize hQ : (fun w ds' => ∃ u2 : Nat, w = none ∧ ds' = (o, .inr ("com/example/hazusu/hazusu/StateBytes$Writer", [(("com/example/hazusu/hazusu/StateBytes$Writer", "bytes", "[B"), .ref u2), (("com/example/hazusu/hazusu/StateBytes$Writer", "length", "I"), .int (ln + 130))])) :: (dt ++ [(u2, ba (own_w xs blk j))]) : Option Value → Hp → Prop) = Q
  refine go_aloadN (pc' := 1) K d8_0 rfl rfl rfl ?_
  refine go_aloadN (pc' := 2) K d8_1 rfl rfl rfl ?_
  refine go_alen (pc' := 3) (i := (ik + 1)) (z := 130) K (List.getElem?_cons_succ.trans hk) d8_2 (by rw [List.length_map, hb]; rfl) rfl ?_
  refine go_private (pc' := 6) (Wd := 0) (i := 0) (y' := ⟨"com/example/hazusu/hazusu/StateBytes$Writer", "room", "(I)V"⟩) (b := o) (argsL := [(.int 130)]) (rest := []) K (hw _ (List.mem_of_getElem? (i := 17) rfl)) (hw _ (List.mem_of_getElem? (i := 18) rfl)) (hw _ (List.mem_of_getElem? (i := 19) rfl)) (hw _ (List.mem_of_getElem? (i := 1) rfl)) (hw _ (List.mem_of_getElem? (i := 2) rfl)) (hw _ (List.mem_of_getElem? (i := 20) rfl)) rfl d8_3 (ct_room2 l Z h0 a0 hw dt iu o u j xs ln hu hx hfit hln hj) (lenOf pd__I_V rfl) rfl rfl (by decide) rfl (by decide) (by decide) (by decide) (by decide) rfl ?_
  rintro _ ds' ⟨u2, rfl, hds⟩
  rw [hds]
  show Go W Q ((o, .inr ("com/example/hazusu/hazusu/StateBytes$Writer", [(("com/example/hazusu/hazusu/StateBytes$Writer", "bytes", "[B"), .ref u2), (("com/example/hazusu/hazusu/StateBytes$Writer", "length", "I"), .int ln)])) :: (dt ++ [(u2, ba (own_cp xs 256))])) 1 256 6 #[.val (.ref o), .val (.ref kb)] []
  refine go_aloadN (pc' := 7) K d8_6 rfl rfl rfl ?_
  refine go_iconst (pc' := 8) (v := 0) K d8_7 rfl rfl ?_
  refine go_aloadN (pc' := 9) K d8_8 rfl rfl rfl ?_
  refine go_getfield (pc' := 12) (i := 0) (j := 0) K (hw _ (List.mem_of_getElem? (i := 10) rfl)) rfl rfl d8_9 rfl ?_
  refine go_aloadN (pc' := 13) K d8_12 rfl rfl rfl ?_
  refine go_getfield (pc' := 16) (i := 0) (j := 1) K (hw _ (List.mem_of_getElem? (i := 21) rfl)) rfl rfl d8_13 rfl ?_
  refine go_aloadN (pc' := 17) K d8_16 rfl rfl rfl ?_
  refine go_alen (pc' := 18) (i := (ik + 1)) (z := 130) K (List.getElem?_cons_succ.trans (at_left hk)) d8_17 (by rw [List.length_map, hb]; rfl) rfl ?_
  refine go_acopy (pc' := 21) (Wd := 0) (i := (ik + 1)) (j := (dt.length + 1)) (sp := 0) (dp := j) (m := 130) (xs := blk) (ys := (own_cp xs 256)) (ds' := (o, .inr ("com/example/hazusu/hazusu/StateBytes$Writer", [(("com/example/hazusu/hazusu/StateBytes$Writer", "bytes", "[B"), .ref u2), (("com/example/hazusu/hazusu/StateBytes$Writer", "length", "I"), .int ln)])) :: (dt ++ [(u2, ba (own_w xs blk j))])) K (hw _ (List.mem_of_getElem? (i := 48) rfl)) (hw _ (List.mem_of_getElem? (i := 39) rfl)) (hw _ (List.mem_of_getElem? (i := 37) rfl)) (hw _ (List.mem_of_getElem? (i := 38) rfl)) (List.getElem?_cons_succ.trans (at_left hk)) (List.getElem?_cons_succ.trans at_last) (by omega) (by rw [own_cp_len]; omega) hbf (own_cp_fit hfit 256) rfl hln rfl (by omega) (by rw [own_cp_len]; omega) d8_18 rfl rfl (by decide) (by decide) rfl (by rw [List.set_cons_succ, set_last]; rfl) ?_
  refine go_aloadN (pc' := 22) K d8_21 rfl rfl rfl ?_
  refine go_dup (pc' := 23) K d8_22 rfl rfl ?_
  refine go_getfield (pc' := 26) (i := 0) (j := 1) K (hw _ (List.mem_of_getElem? (i := 21) rfl)) rfl rfl d8_23 rfl ?_
  refine go_aloadN (pc' := 27) K d8_26 rfl rfl rfl ?_
  refine go_alen (pc' := 28) (i := (ik + 1)) (z := 130) K (List.getElem?_cons_succ.trans (at_left hk)) d8_27 (by rw [List.length_map, hb]; rfl) rfl ?_
  refine go_iadd (pc' := 29) K d8_28 rfl ?_
  refine go_putfield (pc' := 32) (i := 0) (j := 1) (ty := .int) (ds' := (o, .inr ("com/example/hazusu/hazusu/StateBytes$Writer", [(("com/example/hazusu/hazusu/StateBytes$Writer", "bytes", "[B"), .ref u2), (("com/example/hazusu/hazusu/StateBytes$Writer", "length", "I"), .int (ln + 130))])) :: (dt ++ [(u2, ba (own_w xs blk j))])) (KS := [("com/example/hazusu/hazusu/StateBytes$Writer", "bytes", "[B"), ("com/example/hazusu/hazusu/StateBytes$Writer", "length", "I")]) K (hw _ (List.mem_of_getElem? (i := 21) rfl)) (Or.inl (hw _ (List.mem_of_getElem? (i := 22) rfl))) (hw _ (List.mem_of_getElem? (i := 1) rfl)) rfl rfl rfl (al_StateBytes_Writer Z a0 hw) (by decide) (by decide) rfl rfl d8_29 rfl rfl ?_
  exact go_ret K d8_32 (by decide) (by decide) (by subst hQ; exact ⟨u2, rfl, rfl⟩)
set_option maxRecDepth 65536 in
set_option maxHeartbeats 40000000 in
theorem ct_tba (l : Launch) (Z : State) (h0 : Heap) (a0 : Array Value) (hw : ∀ d ∈ tables_1, d.before a0 Z = true) (dt : Hp) (iu o u j : Nat) (xs : List Int32) (ln : Int32) (hu : dt[iu]? = some (u, ba xs)) (hl : xs.length ≤ 256) (hne : j ≠ xs.length) (hj : j ≤ 256) (hfit : ∀ x ∈ xs, fits .byte (.int x) = true) (hln : ln.toInt = (j : Int)) :
    Ct l Z h0 (⟨"com/example/hazusu/hazusu/StateBytes$Writer", "toByteArray", "()[B"⟩ : MethodName) prog_29_method_8_code 1 (some (.array .byte)) [] ({ frames := 2, cells := 1, slots := 256, locals := 64 } : Room) #[(.ref o)] ((o, .inr ("com/example/hazusu/hazusu/StateBytes$Writer", [(("com/example/hazusu/hazusu/StateBytes$Writer", "bytes", "[B"), .ref u), (("com/example/hazusu/hazusu/StateBytes$Writer", "length", "I"), .int ln)])) :: dt) (fun v ds' => ∃ r : Nat, v = some (.ref r) ∧ ds' = (o, .inr ("com/example/hazusu/hazusu/StateBytes$Writer", [(("com/example/hazusu/hazusu/StateBytes$Writer", "bytes", "[B"), .ref u), (("com/example/hazusu/hazusu/StateBytes$Writer", "length", "I"), .int ln)])) :: (dt ++ [(r, ba (own_cp xs j))])) := by
  refine Ct.of_go (Ls := #[.val (.ref o)]) pf_5 (fun m => by first | (simp [entryFrame, mkF, argsToLocals, Value.category, maxLocals]; done) | rfl) (fun W K => ?_)
  generalize hQ : (fun v ds' => ∃ r : Nat, v = some (.ref r) ∧ ds' = (o, .inr ("com/example/hazusu/hazusu/StateBytes$Writer", [(("com/example/hazusu/hazusu/StateBytes$Writer", "bytes", "[B"), .ref u), (("com/example/hazusu/hazusu/StateBytes$Writer", "length", "I"), .int ln)])) :: (dt ++ [(r, ba (own_cp xs j))]) : Option Value → Hp → Prop) = Q
  refine go_aloadN (pc' := 1) K d5_0 rfl rfl rfl ?_
  refine go_getfield (pc' := 4) (i := 0) (j := 0) K (hw _ (List.mem_of_getElem? (i := 10) rfl)) rfl rfl d5_1 rfl ?_
  refine go_aloadN (pc' := 5) K d5_4 rfl rfl rfl ?_
  refine go_getfield (pc' := 8) (i := 0) (j := 1) K (hw _ (List.mem_of_getElem? (i := 21) rfl)) rfl rfl d5_5 rfl ?_
  refine go_static (pc' := 11) (Wd := 0) (y' := ⟨"java/util/Arrays", "copyOf", "([BI)[B"⟩) (argsL := [(.ref u), (.int ln)]) (rest := []) K (hw _ (List.mem_of_getElem? (i := 28) rfl)) (hw _ (List.mem_of_getElem? (i := 29) rfl)) (hw _ (List.mem_of_getElem? (i := 30) rfl)) (hw _ (List.mem_of_getElem? (i := 31) rfl)) d5_8 (ct_copy l Z h0 a0 hw ((o, .inr ("com/example/hazusu/hazusu/StateBytes$Writer", [(("com/example/hazusu/hazusu/StateBytes$Writer", "bytes", "[B"), .ref u), (("com/example/hazusu/hazusu/StateBytes$Writer", "length", "I"), .int ln)])) :: dt) (iu + 1) u j xs ln (List.getElem?_cons_succ.trans hu) hl (by omega) hne hfit hln) (lenOf pd___BI__B rfl) rfl rfl (by decide) rfl (by decide) (by decide) (by decide) (by decide) rfl ?_
  rintro _ ds' ⟨r, rfl, hds⟩
  rw [hds]
  show Go W Q ((o, .inr ("com/example/hazusu/hazusu/StateBytes$Writer", [(("com/example/hazusu/hazusu/StateBytes$Writer", "bytes", "[B"), .ref u), (("com/example/hazusu/hazusu/StateBytes$Writer", "length", "I"), .int ln)])) :: (dt ++ [(r, ba (own_cp xs j))])) 1 256 11 #[.val (.ref o)] [(.ref r)]
  exact go_aret K rfl d5_11 (by decide) (by decide) (by subst hQ; exact ⟨r, rfl, rfl⟩)
def own_blk (p0 p2 : Int32) : List Int32 := (((List.replicate 130 0).set 0 (nar .byte p2.toInt8.toInt32)).set 64 (nar .byte (XT.ushr p0 16).toInt8.toInt32)).set 129 (nar .byte (XT.ushr p2 8).toInt8.toInt32)
theorem own_blk_len (p0 p2 : Int32) : (own_blk p0 p2).length = 130 := by
  unfold own_blk; rw [List.length_set, List.length_set, List.length_set, List.length_replicate]
theorem own_blk_fit (p0 p2 : Int32) : ∀ x ∈ own_blk p0 p2, fits .byte (.int x) = true := own_set_fit (own_set_fit (own_set_fit (own_rep 130) _ _) _ _) _ _
theorem own_blk_get (p0 p2 : Int32) : (own_blk p0 p2)[0]? = some (nar .byte p2.toInt8.toInt32) ∧ (own_blk p0 p2)[1]? = some 0 ∧ (own_blk p0 p2)[64]? = some (nar .byte (XT.ushr p0 16).toInt8.toInt32) ∧ (own_blk p0 p2)[128]? = some 0 ∧ (own_blk p0 p2)[129]? = some (nar .byte (XT.ushr p2 8).toInt8.toInt32) := by
  unfold own_blk
  simp [List.getElem?_set]
theorem own_nar (p : Int32) : nar .byte p.toInt8.toInt32 = p.toInt8.toInt32 := by
  show p.toInt8.toInt32.toInt8.toInt32 = p.toInt8.toInt32
  rw [Int8.toInt8_toInt32]
theorem own_m3 (x : Int32) : x &&& 3 = 0 ∨ x &&& 3 = 1 ∨ x &&& 3 = 2 ∨ x &&& 3 = 3 := by
  have e : (x &&& 3).toInt = x.toInt % 2 ^ 2 := Jvm.Kit.i32_mask x 3 (k := 2) (by decide) (by decide)
  exact ilt4 (by omega) (by omega)
set_option maxRecDepth 65536 in
set_option maxHeartbeats 40000000 in
theorem law_ct (l : Launch) (Z : State) (h0 : Heap) (a0 : Array Value) (hw : ∀ d ∈ tables_1, d.before a0 Z = true) (p0 p1 p2 p3 : Int32) :
    Ct l Z h0 x code maxLocals ret tables_1 room_1 #[(.int p0), (.int p1), (.int p2), (.int p3)] [] (fun v _ => v = some (.int 1)) := by
  refine Ct.of_go (Ls := #[.val (.int p0), .val (.int p1), .val (.int p2), .val (.int p3), .unset, .unset, .unset, .unset, .unset, .unset, .unset, .unset, .unset, .unset]) pf_0 (fun m => by first | (simp [entryFrame, mkF, argsToLocals, Value.category, maxLocals]; done) | rfl) (fun W K => ?_)
  generalize hQ : (fun v _ => v = some (.int 1) : Option Value → Hp → Prop) = Q
  refine go_new (pc' := 3) (C := "com/example/hazusu/hazusu/StateBytes$Writer") (fs := [(("com/example/hazusu/hazusu/StateBytes$Writer", "bytes", "[B"), .null), (("com/example/hazusu/hazusu/StateBytes$Writer", "length", "I"), .int 0)]) (KS := [("com/example/hazusu/hazusu/StateBytes$Writer", "bytes", "[B"), ("com/example/hazusu/hazusu/StateBytes$Writer", "length", "I")]) K (hw _ (List.mem_of_getElem? (i := 0) rfl)) (hw _ (List.mem_of_getElem? (i := 1) rfl)) (hw _ (List.mem_of_getElem? (i := 2) rfl)) rfl (al_StateBytes_Writer Z a0 hw) (by decide +kernel) at_0 (by decide) (by decide) rfl (fun o hgo hlo => ?_)
  show Go W Q [(o, .inr ("com/example/hazusu/hazusu/StateBytes$Writer", [(("com/example/hazusu/hazusu/StateBytes$Writer", "bytes", "[B"), .null), (("com/example/hazusu/hazusu/StateBytes$Writer", "length", "I"), .int 0)]))] 1 2 3 #[.val (.int p0), .val (.int p1), .val (.int p2), .val (.int p3), .unset, .unset, .unset, .unset, .unset, .unset, .unset, .unset, .unset, .unset] [(.ref o)]
  refine go_dup (pc' := 4) K at_3 rfl rfl ?_
  refine go_special (pc' := 7) (Wd := 1) (y' := ⟨"com/example/hazusu/hazusu/StateBytes$Writer", "<init>", "()V"⟩) (b := o) (argsL := []) (rest := [(.ref o)]) K rfl (hw _ (List.mem_of_getElem? (i := 3) rfl)) (hw _ (List.mem_of_getElem? (i := 4) rfl)) (hw _ (List.mem_of_getElem? (i := 2) rfl)) (hw _ (List.mem_of_getElem? (i := 5) rfl)) at_4 (ct_init l Z h0 a0 hw o) (lenOf pd___V rfl) rfl rfl (by decide) rfl (by decide) (by decide) (by decide) (by decide) rfl ?_
  rintro _ ds' ⟨u, rfl, hds⟩
  rw [hds]
  show Go W Q [(o, .inr ("com/example/hazusu/hazusu/StateBytes$Writer", [(("com/example/hazusu/hazusu/StateBytes$Writer", "bytes", "[B"), .ref u), (("com/example/hazusu/hazusu/StateBytes$Writer", "length", "I"), .int 0)])), (u, ba (List.replicate 128 0))] 2 130 7 #[.val (.int p0), .val (.int p1), .val (.int p2), .val (.int p3), .unset, .unset, .unset, .unset, .unset, .unset, .unset, .unset, .unset, .unset] [(.ref o)]
  refine go_astore (pc' := 9) (Ls' := #[.val (.int p0), .val (.int p1), .val (.int p2), .val (.int p3), .val (.ref o), .unset, .unset, .unset, .unset, .unset, .unset, .unset, .unset, .unset]) K at_7 rfl rfl rfl ?_
  have J20 : ∀ f5 : Int32, (f5 = 0 ∨ f5 = 1) → Go W Q [(o, .inr ("com/example/hazusu/hazusu/StateBytes$Writer", [(("com/example/hazusu/hazusu/StateBytes$Writer", "bytes", "[B"), .ref u), (("com/example/hazusu/hazusu/StateBytes$Writer", "length", "I"), .int 0)])), (u, ba (List.replicate 128 0))] 2 130 20 #[.val (.int p0), .val (.int p1), .val (.int p2), .val (.int p3), .val (.ref o), .unset, .unset, .unset, .unset, .unset, .unset, .unset, .unset, .unset] [(.int f5)] := by
    intro f5 hf5
    refine go_istore (pc' := 22) (Ls' := #[.val (.int p0), .val (.int p1), .val (.int p2), .val (.int p3), .val (.ref o), .val (.int f5), .unset, .unset, .unset, .unset, .unset, .unset, .unset, .unset]) K at_20 rfl rfl ?_
    have J34 : ∀ f6 : Int32, (f6 = 0 ∨ f6 = 1) → Go W Q [(o, .inr ("com/example/hazusu/hazusu/StateBytes$Writer", [(("com/example/hazusu/hazusu/StateBytes$Writer", "bytes", "[B"), .ref u), (("com/example/hazusu/hazusu/StateBytes$Writer", "length", "I"), .int 0)])), (u, ba (List.replicate 128 0))] 2 130 34 #[.val (.int p0), .val (.int p1), .val (.int p2), .val (.int p3), .val (.ref o), .val (.int f5), .unset, .unset, .unset, .unset, .unset, .unset, .unset, .unset] [(.int f6)] := by
      intro f6 hf6
      refine go_istore (pc' := 36) (Ls' := #[.val (.int p0), .val (.int p1), .val (.int p2), .val (.int p3), .val (.ref o), .val (.int f5), .val (.int f6), .unset, .unset, .unset, .unset, .unset, .unset, .unset]) K at_34 rfl rfl ?_
      refine go_iloadN (pc' := 37) K at_36 rfl rfl ?_
      refine go_iconst (pc' := 38) (v := 3) K at_37 rfl rfl ?_
      refine go_iand (pc' := 39) K at_38 rfl ?_
      generalize hn : (p3 &&& 3) = n
      refine go_istore (pc' := 41) (Ls' := #[.val (.int p0), .val (.int p1), .val (.int p2), .val (.int p3), .val (.ref o), .val (.int f5), .val (.int f6), .val (.int n), .unset, .unset, .unset, .unset, .unset, .unset]) K at_39 rfl rfl ?_
      have hn4 := own_m3 p3
      rw [hn] at hn4
      refine go_sipush (pc' := 44) (v := 130) K at_41 (by decide) rfl ?_
      refine go_newB (pc' := 46) (m := 130) (cap := 130) K (hw _ (List.mem_of_getElem? (i := 9) rfl)) at_44 (by decide) (by decide) (by decide) (by decide) (by decide) rfl (fun kb hgkb hlkb => ?_)
      show Go W Q [(o, .inr ("com/example/hazusu/hazusu/StateBytes$Writer", [(("com/example/hazusu/hazusu/StateBytes$Writer", "bytes", "[B"), .ref u), (("com/example/hazusu/hazusu/StateBytes$Writer", "length", "I"), .int 0)])), (u, ba (List.replicate 128 0)), (kb, ba (List.replicate 130 0))] 3 260 46 #[.val (.int p0), .val (.int p1), .val (.int p2), .val (.int p3), .val (.ref o), .val (.int f5), .val (.int f6), .val (.int n), .unset, .unset, .unset, .unset, .unset, .unset] [(.ref kb)]
      refine go_astore (pc' := 48) (Ls' := #[.val (.int p0), .val (.int p1), .val (.int p2), .val (.int p3), .val (.ref o), .val (.int f5), .val (.int f6), .val (.int n), .val (.ref kb), .unset, .unset, .unset, .unset, .unset]) K at_46 rfl rfl rfl ?_
      refine go_aload (pc' := 50) K at_48 rfl rfl rfl ?_
      refine go_iconst (pc' := 51) (v := 0) K at_50 rfl rfl ?_
      refine go_iloadN (pc' := 52) K at_51 rfl rfl ?_
      refine go_i2b (pc' := 53) K at_52 rfl ?_
      refine go_bastore (pc' := 54) (i := 2) (m := 0) (ds' := [(o, .inr ("com/example/hazusu/hazusu/StateBytes$Writer", [(("com/example/hazusu/hazusu/StateBytes$Writer", "bytes", "[B"), .ref u), (("com/example/hazusu/hazusu/StateBytes$Writer", "length", "I"), .int 0)])), (u, ba (List.replicate 128 0)), (kb, ba ((List.replicate 130 0).set 0 (nar .byte p2.toInt8.toInt32)))]) K rfl at_53 (by decide) (by rw [List.length_replicate]; decide) rfl rfl ?_
      refine go_aload (pc' := 56) K at_54 rfl rfl rfl ?_
      refine go_bipush (pc' := 58) (v := 64) K at_56 (by decide) rfl ?_
      refine go_iloadN (pc' := 59) K at_58 rfl rfl ?_
      refine go_bipush (pc' := 61) (v := 16) K at_59 (by decide) rfl ?_
      refine go_iushr (pc' := 62) K at_61 rfl ?_
      refine go_i2b (pc' := 63) K at_62 rfl ?_
      refine go_bastore (pc' := 64) (i := 2) (m := 64) (ds' := [(o, .inr ("com/example/hazusu/hazusu/StateBytes$Writer", [(("com/example/hazusu/hazusu/StateBytes$Writer", "bytes", "[B"), .ref u), (("com/example/hazusu/hazusu/StateBytes$Writer", "length", "I"), .int 0)])), (u, ba (List.replicate 128 0)), (kb, ba (((List.replicate 130 0).set 0 (nar .byte p2.toInt8.toInt32)).set 64 (nar .byte (XT.ushr p0 16).toInt8.toInt32)))]) K rfl at_63 (by decide) (by rw [List.length_set, List.length_replicate]; decide) rfl rfl ?_
      refine go_aload (pc' := 66) K at_64 rfl rfl rfl ?_
      refine go_sipush (pc' := 69) (v := 129) K at_66 (by decide) rfl ?_
      refine go_iloadN (pc' := 70) K at_69 rfl rfl ?_
      refine go_bipush (pc' := 72) (v := 8) K at_70 (by decide) rfl ?_
      refine go_iushr (pc' := 73) K at_72 rfl ?_
      refine go_i2b (pc' := 74) K at_73 rfl ?_
      refine go_bastore (pc' := 75) (i := 2) (m := 129) (ds' := [(o, .inr ("com/example/hazusu/hazusu/StateBytes$Writer", [(("com/example/hazusu/hazusu/StateBytes$Writer", "bytes", "[B"), .ref u), (("com/example/hazusu/hazusu/StateBytes$Writer", "length", "I"), .int 0)])), (u, ba (List.replicate 128 0)), (kb, ba (own_blk p0 p2))]) K rfl at_74 (by decide) (by rw [List.length_set, List.length_set, List.length_replicate]; decide) rfl rfl ?_
      have J100 : ∀ xs : List Int32, xs.length = 128 → (∀ x ∈ xs, fits .byte (.int x) = true) → Go W Q [(o, .inr ("com/example/hazusu/hazusu/StateBytes$Writer", [(("com/example/hazusu/hazusu/StateBytes$Writer", "bytes", "[B"), .ref u), (("com/example/hazusu/hazusu/StateBytes$Writer", "length", "I"), .int 0)])), (u, ba xs), (kb, ba (own_blk p0 p2))] 3 260 100 #[.val (.int p0), .val (.int p1), .val (.int p2), .val (.int p3), .val (.ref o), .val (.int f5), .val (.int f6), .val (.int n), .val (.ref kb), .unset, .unset, .unset, .unset, .unset] [] := by
        intro xs hx hfit
        rcases hn4 with rfl | rfl | rfl | rfl <;> rcases hf6 with rfl | rfl
        ·
          refine go_iload (pc' := 102) K at_100 rfl rfl ?_
          refine go_iconst (pc' := 103) (v := 1) K at_102 rfl rfl ?_
          refine go_ic_lt_t (pc' := 112) K at_103 (by decide) (by decide) (by decide) ?_
          refine go_iload (pc' := 114) K at_112 rfl rfl ?_
          refine go_iconst (pc' := 115) (v := 2) K at_114 rfl rfl ?_
          refine go_ic_lt_t (pc' := 124) K at_115 (by decide) (by decide) (by decide) ?_
          refine go_iload (pc' := 126) K at_124 rfl rfl ?_
          refine go_iconst (pc' := 127) (v := 3) K at_126 rfl rfl ?_
          refine go_ic_lt_t (pc' := 136) K at_127 (by decide) (by decide) (by decide) ?_
          refine go_iload (pc' := 138) K at_136 rfl rfl ?_
          refine go_if_eq_t (pc' := 148) K at_138 (by decide) (by decide) (by decide) ?_
          refine go_iload (pc' := 150) K at_148 rfl rfl ?_
          refine go_iload (pc' := 152) K at_150 rfl rfl ?_
          refine go_if_eq_t (pc' := 161) K at_152 (by decide) (by decide) (by decide) ?_
          refine go_iconst (pc' := 162) (v := 0) K at_161 rfl rfl ?_
          refine go_iadd (pc' := 163) K at_162 rfl ?_
          rw [show ((0 + 0) : Int32) = 0 from by decide]
          refine go_istore (pc' := 165) (Ls' := #[.val (.int p0), .val (.int p1), .val (.int p2), .val (.int p3), .val (.ref o), .val (.int f5), .val (.int 0), .val (.int 0), .val (.ref kb), .val (.int 0), .unset, .unset, .unset, .unset]) K at_163 rfl rfl ?_
          refine go_aload (pc' := 167) K at_165 rfl rfl rfl ?_
          refine go_virtual (pc' := 170) (Wd := 0) (i := 0) (y' := ⟨"com/example/hazusu/hazusu/StateBytes$Writer", "toByteArray", "()[B"⟩) (b := o) (argsL := []) (rest := []) K (hw _ (List.mem_of_getElem? (i := 23) rfl)) (hw _ (List.mem_of_getElem? (i := 24) rfl)) (hw _ (List.mem_of_getElem? (i := 26) rfl)) (hw _ (List.mem_of_getElem? (i := 25) rfl)) (hw _ (List.mem_of_getElem? (i := 2) rfl)) (hw _ (List.mem_of_getElem? (i := 27) rfl)) rfl at_167 (ct_tba l Z h0 a0 hw [(u, ba xs), (kb, ba (own_blk p0 p2))] 0 o u 0 xs 0 rfl (by rw [hx]; decide) (by rw [hx]; decide) (by decide) hfit rfl) (lenOf pd____B rfl) rfl rfl (by decide) rfl (by decide) (by decide) (by decide) (by decide) rfl ?_
          rintro _ ds' ⟨r, rfl, hds⟩
          rw [hds]
          show Go W Q [(o, .inr ("com/example/hazusu/hazusu/StateBytes$Writer", [(("com/example/hazusu/hazusu/StateBytes$Writer", "bytes", "[B"), .ref u), (("com/example/hazusu/hazusu/StateBytes$Writer", "length", "I"), .int 0)])), (u, ba xs), (kb, ba (own_blk p0 p2)), (r, ba (own_cp xs 0))] 4 516 170 #[.val (.int p0), .val (.int p1), .val (.int p2), .val (.int p3), .val (.ref o), .val (.int f5), .val (.int 0), .val (.int 0), .val (.ref kb), .val (.int 0), .unset, .unset, .unset, .unset] [(.ref r)]
          refine go_astore (pc' := 172) (Ls' := #[.val (.int p0), .val (.int p1), .val (.int p2), .val (.int p3), .val (.ref o), .val (.int f5), .val (.int 0), .val (.int 0), .val (.ref kb), .val (.int 0), .val (.ref r), .unset, .unset, .unset]) K at_170 rfl rfl rfl ?_
          refine go_aload (pc' := 174) K at_172 rfl rfl rfl ?_
          refine go_alen (pc' := 175) (i := 3) (z := 0) K rfl at_174 (by rw [List.length_map, own_cp_len]; rfl) rfl ?_
          refine go_iload (pc' := 177) K at_175 rfl rfl ?_
          refine go_ic_eq_t (pc' := 182) K at_177 (by decide) (by decide) (by decide) ?_
          refine go_iconst (pc' := 183) (v := 1) K at_182 rfl rfl ?_
          refine go_istore (pc' := 185) (Ls' := #[.val (.int p0), .val (.int p1), .val (.int p2), .val (.int p3), .val (.ref o), .val (.int f5), .val (.int 0), .val (.int 0), .val (.ref kb), .val (.int 0), .val (.ref r), .val (.int 1), .unset, .unset]) K at_183 rfl rfl ?_
          refine go_iload (pc' := 187) K at_185 rfl rfl ?_
          refine go_iconst (pc' := 188) (v := 1) K at_187 rfl rfl ?_
          refine go_ic_lt_t (pc' := 212) K at_188 (by decide) (by decide) (by decide) ?_
          refine go_iload (pc' := 214) K at_212 rfl rfl ?_
          refine go_iconst (pc' := 215) (v := 2) K at_214 rfl rfl ?_
          refine go_ic_lt_t (pc' := 239) K at_215 (by decide) (by decide) (by decide) ?_
          refine go_iload (pc' := 241) K at_239 rfl rfl ?_
          refine go_iconst (pc' := 242) (v := 3) K at_241 rfl rfl ?_
          refine go_ic_lt_t (pc' := 266) K at_242 (by decide) (by decide) (by decide) ?_
          refine go_iload (pc' := 268) K at_266 rfl rfl ?_
          refine go_if_eq_t (pc' := 348) K at_268 (by decide) (by decide) (by decide) ?_
          refine go_iload (pc' := 350) K at_348 rfl rfl ?_
          refine go_if_le_t (pc' := 407) K at_350 (by decide) (by decide) (by decide) ?_
          refine go_aload (pc' := 409) K at_407 rfl rfl rfl ?_
          refine go_virtual (pc' := 412) (Wd := 0) (i := 0) (y' := ⟨"com/example/hazusu/hazusu/StateBytes$Writer", "toByteArray", "()[B"⟩) (b := o) (argsL := []) (rest := []) K (hw _ (List.mem_of_getElem? (i := 23) rfl)) (hw _ (List.mem_of_getElem? (i := 24) rfl)) (hw _ (List.mem_of_getElem? (i := 26) rfl)) (hw _ (List.mem_of_getElem? (i := 25) rfl)) (hw _ (List.mem_of_getElem? (i := 2) rfl)) (hw _ (List.mem_of_getElem? (i := 27) rfl)) rfl at_409 (ct_tba l Z h0 a0 hw [(u, ba xs), (kb, ba (own_blk p0 p2)), (r, ba (own_cp xs 0))] 0 o u 0 xs 0 rfl (by rw [hx]; decide) (by rw [hx]; decide) (by decide) hfit rfl) (lenOf pd____B rfl) rfl rfl (by decide) rfl (by decide) (by decide) (by decide) (by decide) rfl ?_
          rintro _ ds' ⟨r2, rfl, hds⟩
          rw [hds]
          show Go W Q [(o, .inr ("com/example/hazusu/hazusu/StateBytes$Writer", [(("com/example/hazusu/hazusu/StateBytes$Writer", "bytes", "[B"), .ref u), (("com/example/hazusu/hazusu/StateBytes$Writer", "length", "I"), .int 0)])), (u, ba xs), (kb, ba (own_blk p0 p2)), (r, ba (own_cp xs 0)), (r2, ba (own_cp xs 0))] 5 772 412 #[.val (.int p0), .val (.int p1), .val (.int p2), .val (.int p3), .val (.ref o), .val (.int f5), .val (.int 0), .val (.int 0), .val (.ref kb), .val (.int 0), .val (.ref r), .val (.int 1), .unset, .unset] [(.ref r2)]
          refine go_astore (pc' := 414) (Ls' := #[.val (.int p0), .val (.int p1), .val (.int p2), .val (.int p3), .val (.ref o), .val (.int f5), .val (.int 0), .val (.int 0), .val (.ref kb), .val (.int 0), .val (.ref r), .val (.int 1), .val (.ref r2), .unset]) K at_412 rfl rfl rfl ?_
          refine go_iload (pc' := 416) K at_414 rfl rfl ?_
          refine go_if_eq_f (pc' := 419) K at_416 (by decide) rfl ?_
          refine go_aload (pc' := 421) K at_419 rfl rfl rfl ?_
          refine go_alen (pc' := 422) (i := 4) (z := 0) K rfl at_421 (by rw [List.length_map, own_cp_len]; rfl) rfl ?_
          refine go_if_ne_f (pc' := 425) K at_422 (by decide) rfl ?_
          refine go_iconst (pc' := 426) (v := 1) K at_425 rfl rfl ?_
          refine go_goto (pc' := 430) K at_426 (by decide) (by decide) ?_
          refine go_istore (pc' := 432) (Ls' := #[.val (.int p0), .val (.int p1), .val (.int p2), .val (.int p3), .val (.ref o), .val (.int f5), .val (.int 0), .val (.int 0), .val (.ref kb), .val (.int 0), .val (.ref r), .val (.int 1), .val (.ref r2), .unset]) K at_430 rfl rfl ?_
          refine go_iload (pc' := 434) K at_432 rfl rfl ?_
          exact go_zret K at_434 (by decide) (by decide) (Or.inr rfl) (by subst hQ; rfl)
        ·
          refine go_iload (pc' := 102) K at_100 rfl rfl ?_
          refine go_iconst (pc' := 103) (v := 1) K at_102 rfl rfl ?_
          refine go_ic_lt_t (pc' := 112) K at_103 (by decide) (by decide) (by decide) ?_
          refine go_iload (pc' := 114) K at_112 rfl rfl ?_
          refine go_iconst (pc' := 115) (v := 2) K at_114 rfl rfl ?_
          refine go_ic_lt_t (pc' := 124) K at_115 (by decide) (by decide) (by decide) ?_
          refine go_iload (pc' := 126) K at_124 rfl rfl ?_
          refine go_iconst (pc' := 127) (v := 3) K at_126 rfl rfl ?_
          refine go_ic_lt_t (pc' := 136) K at_127 (by decide) (by decide) (by decide) ?_
          refine go_iload (pc' := 138) K at_136 rfl rfl ?_
          refine go_if_eq_f (pc' := 141) K at_138 (by decide) rfl ?_
          refine go_aload (pc' := 143) K at_141 rfl rfl rfl ?_
          refine go_aload (pc' := 145) K at_143 rfl rfl rfl ?_
          refine go_virtual (pc' := 148) (Wd := 0) (i := 0) (y' := ⟨"com/example/hazusu/hazusu/StateBytes$Writer", "writeBytes", "([B)V"⟩) (b := o) (argsL := [(.ref kb)]) (rest := []) K (hw _ (List.mem_of_getElem? (i := 40) rfl)) (hw _ (List.mem_of_getElem? (i := 41) rfl)) (hw _ (List.mem_of_getElem? (i := 43) rfl)) (hw _ (List.mem_of_getElem? (i := 42) rfl)) (hw _ (List.mem_of_getElem? (i := 2) rfl)) (hw _ (List.mem_of_getElem? (i := 44) rfl)) rfl at_145 (ct_wbs l Z h0 a0 hw [(u, ba xs), (kb, ba (own_blk p0 p2))] 0 1 o u kb 0 xs (own_blk p0 p2) 0 rfl rfl hx (own_blk_len p0 p2) hfit (own_blk_fit p0 p2) rfl (by decide)) (lenOf pd___B_V rfl) rfl rfl (by decide) rfl (by decide) (by decide) (by decide) (by decide) rfl ?_
          rintro _ ds' ⟨u2, rfl, hds⟩
          rw [hds]
          have hwl := own_w_len (xs := xs) (j := 0) (own_blk_len p0 p2) (by decide)
          have hwf := own_w_fit (j := 0) hfit (own_blk_fit p0 p2)
          show Go W Q [(o, .inr ("com/example/hazusu/hazusu/StateBytes$Writer", [(("com/example/hazusu/hazusu/StateBytes$Writer", "bytes", "[B"), .ref u2), (("com/example/hazusu/hazusu/StateBytes$Writer", "length", "I"), .int 130)])), (u, ba xs), (kb, ba (own_blk p0 p2)), (u2, ba (own_w xs (own_blk p0 p2) 0))] 4 516 148 #[.val (.int p0), .val (.int p1), .val (.int p2), .val (.int p3), .val (.ref o), .val (.int f5), .val (.int 1), .val (.int 0), .val (.ref kb), .unset, .unset, .unset, .unset, .unset] []
          refine go_iload (pc' := 150) K at_148 rfl rfl ?_
          refine go_iload (pc' := 152) K at_150 rfl rfl ?_
          refine go_if_eq_f (pc' := 155) K at_152 (by decide) rfl ?_
          refine go_sipush (pc' := 158) (v := 130) K at_155 (by decide) rfl ?_
          refine go_goto (pc' := 162) K at_158 (by decide) (by decide) ?_
          refine go_iadd (pc' := 163) K at_162 rfl ?_
          rw [show ((0 + 130) : Int32) = 130 from by decide]
          refine go_istore (pc' := 165) (Ls' := #[.val (.int p0), .val (.int p1), .val (.int p2), .val (.int p3), .val (.ref o), .val (.int f5), .val (.int 1), .val (.int 0), .val (.ref kb), .val (.int 130), .unset, .unset, .unset, .unset]) K at_163 rfl rfl ?_
          refine go_aload (pc' := 167) K at_165 rfl rfl rfl ?_
          refine go_virtual (pc' := 170) (Wd := 0) (i := 0) (y' := ⟨"com/example/hazusu/hazusu/StateBytes$Writer", "toByteArray", "()[B"⟩) (b := o) (argsL := []) (rest := []) K (hw _ (List.mem_of_getElem? (i := 23) rfl)) (hw _ (List.mem_of_getElem? (i := 24) rfl)) (hw _ (List.mem_of_getElem? (i := 26) rfl)) (hw _ (List.mem_of_getElem? (i := 25) rfl)) (hw _ (List.mem_of_getElem? (i := 2) rfl)) (hw _ (List.mem_of_getElem? (i := 27) rfl)) rfl at_167 (ct_tba l Z h0 a0 hw [(u, ba xs), (kb, ba (own_blk p0 p2)), (u2, ba (own_w xs (own_blk p0 p2) 0))] 2 o u2 130 (own_w xs (own_blk p0 p2) 0) 130 rfl (Nat.le_of_eq hwl) (by rw [hwl]; decide) (by decide) hwf rfl) (lenOf pd____B rfl) rfl rfl (by decide) rfl (by decide) (by decide) (by decide) (by decide) rfl ?_
          rintro _ ds' ⟨r, rfl, hds⟩
          rw [hds]
          show Go W Q [(o, .inr ("com/example/hazusu/hazusu/StateBytes$Writer", [(("com/example/hazusu/hazusu/StateBytes$Writer", "bytes", "[B"), .ref u2), (("com/example/hazusu/hazusu/StateBytes$Writer", "length", "I"), .int 130)])), (u, ba xs), (kb, ba (own_blk p0 p2)), (u2, ba (own_w xs (own_blk p0 p2) 0)), (r, ba (own_cp (own_w xs (own_blk p0 p2) 0) 130))] 5 772 170 #[.val (.int p0), .val (.int p1), .val (.int p2), .val (.int p3), .val (.ref o), .val (.int f5), .val (.int 1), .val (.int 0), .val (.ref kb), .val (.int 130), .unset, .unset, .unset, .unset] [(.ref r)]
          refine go_astore (pc' := 172) (Ls' := #[.val (.int p0), .val (.int p1), .val (.int p2), .val (.int p3), .val (.ref o), .val (.int f5), .val (.int 1), .val (.int 0), .val (.ref kb), .val (.int 130), .val (.ref r), .unset, .unset, .unset]) K at_170 rfl rfl rfl ?_
          refine go_aload (pc' := 174) K at_172 rfl rfl rfl ?_
          refine go_alen (pc' := 175) (i := 4) (z := 130) K rfl at_174 (by rw [List.length_map, own_cp_len]; rfl) rfl ?_
          refine go_iload (pc' := 177) K at_175 rfl rfl ?_
          refine go_ic_eq_t (pc' := 182) K at_177 (by decide) (by decide) (by decide) ?_
          refine go_iconst (pc' := 183) (v := 1) K at_182 rfl rfl ?_
          refine go_istore (pc' := 185) (Ls' := #[.val (.int p0), .val (.int p1), .val (.int p2), .val (.int p3), .val (.ref o), .val (.int f5), .val (.int 1), .val (.int 0), .val (.ref kb), .val (.int 130), .val (.ref r), .val (.int 1), .unset, .unset]) K at_183 rfl rfl ?_
          refine go_iload (pc' := 187) K at_185 rfl rfl ?_
          refine go_iconst (pc' := 188) (v := 1) K at_187 rfl rfl ?_
          refine go_ic_lt_t (pc' := 212) K at_188 (by decide) (by decide) (by decide) ?_
          refine go_iload (pc' := 214) K at_212 rfl rfl ?_
          refine go_iconst (pc' := 215) (v := 2) K at_214 rfl rfl ?_
          refine go_ic_lt_t (pc' := 239) K at_215 (by decide) (by decide) (by decide) ?_
          refine go_iload (pc' := 241) K at_239 rfl rfl ?_
          refine go_iconst (pc' := 242) (v := 3) K at_241 rfl rfl ?_
          refine go_ic_lt_t (pc' := 266) K at_242 (by decide) (by decide) (by decide) ?_
          refine go_iload (pc' := 268) K at_266 rfl rfl ?_
          refine go_if_eq_f (pc' := 271) K at_268 (by decide) rfl ?_
          refine go_iload (pc' := 273) K at_271 rfl rfl ?_
          refine go_if_eq_f (pc' := 276) K at_273 (by decide) rfl ?_
          refine go_aload (pc' := 278) K at_276 rfl rfl rfl ?_
          refine go_iload (pc' := 280) K at_278 rfl rfl ?_
          refine go_baload (pc' := 281) (i := 4) (m := 0) (x := (nar .byte p2.toInt8.toInt32)) K rfl at_280 (by decide) (by rw [own_cp_get (by decide) (by rw [hwl]; decide)]; exact (own_w_hi (j := 0) (t := 0) (own_blk_len p0 p2) (by decide) (by decide)).trans (own_blk_get p0 p2).1) rfl ?_
          refine go_iloadN (pc' := 282) K at_281 rfl rfl ?_
          refine go_i2b (pc' := 283) K at_282 rfl ?_
          refine go_ic_ne_f (pc' := 286) K at_283 (own_nar p2) rfl ?_
          refine go_aload (pc' := 288) K at_286 rfl rfl rfl ?_
          refine go_iload (pc' := 290) K at_288 rfl rfl ?_
          refine go_iconst (pc' := 291) (v := 1) K at_290 rfl rfl ?_
          refine go_iadd (pc' := 292) K at_291 rfl ?_
          rw [show ((0 + 1) : Int32) = 1 from by decide]
          refine go_baload (pc' := 293) (i := 4) (m := 1) (x := 0) K rfl at_292 (by decide) (by rw [own_cp_get (by decide) (by rw [hwl]; decide)]; exact (own_w_hi (j := 0) (t := 1) (own_blk_len p0 p2) (by decide) (by decide)).trans (own_blk_get p0 p2).2.1) rfl ?_
          refine go_if_ne_f (pc' := 296) K at_293 (by decide) rfl ?_
          refine go_aload (pc' := 298) K at_296 rfl rfl rfl ?_
          refine go_iload (pc' := 300) K at_298 rfl rfl ?_
          refine go_bipush (pc' := 302) (v := 64) K at_300 (by decide) rfl ?_
          refine go_iadd (pc' := 303) K at_302 rfl ?_
          rw [show ((0 + 64) : Int32) = 64 from by decide]
          refine go_baload (pc' := 304) (i := 4) (m := 64) (x := (nar .byte (XT.ushr p0 16).toInt8.toInt32)) K rfl at_303 (by decide) (by rw [own_cp_get (by decide) (by rw [hwl]; decide)]; exact (own_w_hi (j := 0) (t := 64) (own_blk_len p0 p2) (by decide) (by decide)).trans (own_blk_get p0 p2).2.2.1) rfl ?_
          refine go_iloadN (pc' := 305) K at_304 rfl rfl ?_
          refine go_bipush (pc' := 307) (v := 16) K at_305 (by decide) rfl ?_
          refine go_iushr (pc' := 308) K at_307 rfl ?_
          refine go_i2b (pc' := 309) K at_308 rfl ?_
          refine go_ic_ne_f (pc' := 312) K at_309 (own_nar _) rfl ?_
          refine go_aload (pc' := 314) K at_312 rfl rfl rfl ?_
          refine go_iload (pc' := 316) K at_314 rfl rfl ?_
          refine go_sipush (pc' := 319) (v := 128) K at_316 (by decide) rfl ?_
          refine go_iadd (pc' := 320) K at_319 rfl ?_
          rw [show ((0 + 128) : Int32) = 128 from by decide]
          refine go_baload (pc' := 321) (i := 4) (m := 128) (x := 0) K rfl at_320 (by decide) (by rw [own_cp_get (by decide) (by rw [hwl]; decide)]; exact (own_w_hi (j := 0) (t := 128) (own_blk_len p0 p2) (by decide) (by decide)).trans (own_blk_get p0 p2).2.2.2.1) rfl ?_
          refine go_if_ne_f (pc' := 324) K at_321 (by decide) rfl ?_
          refine go_aload (pc' := 326) K at_324 rfl rfl rfl ?_
          refine go_iload (pc' := 328) K at_326 rfl rfl ?_
          refine go_sipush (pc' := 331) (v := 129) K at_328 (by decide) rfl ?_
          refine go_iadd (pc' := 332) K at_331 rfl ?_
          rw [show ((0 + 129) : Int32) = 129 from by decide]
          refine go_baload (pc' := 333) (i := 4) (m := 129) (x := (nar .byte (XT.ushr p2 8).toInt8.toInt32)) K rfl at_332 (by decide) (by rw [own_cp_get (by decide) (by rw [hwl]; decide)]; exact (own_w_hi (j := 0) (t := 129) (own_blk_len p0 p2) (by decide) (by decide)).trans (own_blk_get p0 p2).2.2.2.2) rfl ?_
          refine go_iloadN (pc' := 334) K at_333 rfl rfl ?_
          refine go_bipush (pc' := 336) (v := 8) K at_334 (by decide) rfl ?_
          refine go_iushr (pc' := 337) K at_336 rfl ?_
          refine go_i2b (pc' := 338) K at_337 rfl ?_
          refine go_ic_ne_f (pc' := 341) K at_338 (own_nar _) rfl ?_
          refine go_iconst (pc' := 342) (v := 1) K at_341 rfl rfl ?_
          refine go_goto (pc' := 346) K at_342 (by decide) (by decide) ?_
          refine go_istore (pc' := 348) (Ls' := #[.val (.int p0), .val (.int p1), .val (.int p2), .val (.int p3), .val (.ref o), .val (.int f5), .val (.int 1), .val (.int 0), .val (.ref kb), .val (.int 130), .val (.ref r), .val (.int 1), .unset, .unset]) K at_346 rfl rfl ?_
          refine go_iload (pc' := 350) K at_348 rfl rfl ?_
          refine go_if_le_f (pc' := 353) K at_350 (by decide) rfl ?_
          refine go_aload (pc' := 355) K at_353 rfl rfl rfl ?_
          refine go_iconst (pc' := 356) (v := 0) K at_355 rfl rfl ?_
          refine go_baload (pc' := 357) (i := 4) (m := 0) (x := (nar .byte p2.toInt8.toInt32)) K rfl at_356 (by decide) (by rw [own_cp_get (by decide) (by rw [hwl]; decide)]; exact (own_w_hi (j := 0) (t := 0) (own_blk_len p0 p2) (by decide) (by decide)).trans (own_blk_get p0 p2).1) rfl ?_
          refine go_istore (pc' := 359) (Ls' := #[.val (.int p0), .val (.int p1), .val (.int p2), .val (.int p3), .val (.ref o), .val (.int f5), .val (.int 1), .val (.int 0), .val (.ref kb), .val (.int 130), .val (.ref r), .val (.int 1), .val (.int (nar .byte p2.toInt8.toInt32)), .unset]) K at_357 rfl rfl ?_
          refine go_aload (pc' := 361) K at_359 rfl rfl rfl ?_
          refine go_iconst (pc' := 362) (v := 0) K at_361 rfl rfl ?_
          refine go_iload (pc' := 364) K at_362 rfl rfl ?_
          refine go_iconst (pc' := 365) (v := 1) K at_364 rfl rfl ?_
          refine go_ixor (pc' := 366) K at_365 rfl ?_
          refine go_i2b (pc' := 367) K at_366 rfl ?_
          refine go_bastore (pc' := 368) (i := 4) (m := 0) (ds' := [(o, .inr ("com/example/hazusu/hazusu/StateBytes$Writer", [(("com/example/hazusu/hazusu/StateBytes$Writer", "bytes", "[B"), .ref u2), (("com/example/hazusu/hazusu/StateBytes$Writer", "length", "I"), .int 130)])), (u, ba xs), (kb, ba (own_blk p0 p2)), (u2, ba (own_w xs (own_blk p0 p2) 0)), (r, ba ((own_cp (own_w xs (own_blk p0 p2) 0) 130).set 0 (nar .byte ((nar .byte p2.toInt8.toInt32) ^^^ 1).toInt8.toInt32)))]) K rfl at_367 (by decide) (by rw [own_cp_len]; decide) rfl rfl ?_
          refine go_aload (pc' := 370) K at_368 rfl rfl rfl ?_
          refine go_virtual (pc' := 373) (Wd := 0) (i := 0) (y' := ⟨"com/example/hazusu/hazusu/StateBytes$Writer", "toByteArray", "()[B"⟩) (b := o) (argsL := []) (rest := []) K (hw _ (List.mem_of_getElem? (i := 23) rfl)) (hw _ (List.mem_of_getElem? (i := 24) rfl)) (hw _ (List.mem_of_getElem? (i := 26) rfl)) (hw _ (List.mem_of_getElem? (i := 25) rfl)) (hw _ (List.mem_of_getElem? (i := 2) rfl)) (hw _ (List.mem_of_getElem? (i := 27) rfl)) rfl at_370 (ct_tba l Z h0 a0 hw [(u, ba xs), (kb, ba (own_blk p0 p2)), (u2, ba (own_w xs (own_blk p0 p2) 0)), (r, ba ((own_cp (own_w xs (own_blk p0 p2) 0) 130).set 0 (nar .byte ((nar .byte p2.toInt8.toInt32) ^^^ 1).toInt8.toInt32)))] 2 o u2 130 (own_w xs (own_blk p0 p2) 0) 130 rfl (Nat.le_of_eq hwl) (by rw [hwl]; decide) (by decide) hwf rfl) (lenOf pd____B rfl) rfl rfl (by decide) rfl (by decide) (by decide) (by decide) (by decide) rfl ?_
          rintro _ ds' ⟨r2, rfl, hds⟩
          rw [hds]
          show Go W Q [(o, .inr ("com/example/hazusu/hazusu/StateBytes$Writer", [(("com/example/hazusu/hazusu/StateBytes$Writer", "bytes", "[B"), .ref u2), (("com/example/hazusu/hazusu/StateBytes$Writer", "length", "I"), .int 130)])), (u, ba xs), (kb, ba (own_blk p0 p2)), (u2, ba (own_w xs (own_blk p0 p2) 0)), (r, ba ((own_cp (own_w xs (own_blk p0 p2) 0) 130).set 0 (nar .byte ((nar .byte p2.toInt8.toInt32) ^^^ 1).toInt8.toInt32))), (r2, ba (own_cp (own_w xs (own_blk p0 p2) 0) 130))] 6 1028 373 #[.val (.int p0), .val (.int p1), .val (.int p2), .val (.int p3), .val (.ref o), .val (.int f5), .val (.int 1), .val (.int 0), .val (.ref kb), .val (.int 130), .val (.ref r), .val (.int 1), .val (.int (nar .byte p2.toInt8.toInt32)), .unset] [(.ref r2)]
          refine go_astore (pc' := 375) (Ls' := #[.val (.int p0), .val (.int p1), .val (.int p2), .val (.int p3), .val (.ref o), .val (.int f5), .val (.int 1), .val (.int 0), .val (.ref kb), .val (.int 130), .val (.ref r), .val (.int 1), .val (.int (nar .byte p2.toInt8.toInt32)), .val (.ref r2)]) K at_373 rfl rfl rfl ?_
          refine go_iload (pc' := 377) K at_375 rfl rfl ?_
          refine go_if_eq_f (pc' := 380) K at_377 (by decide) rfl ?_
          refine go_aload (pc' := 382) K at_380 rfl rfl rfl ?_
          refine go_alen (pc' := 383) (i := 5) (z := 130) K rfl at_382 (by rw [List.length_map, own_cp_len]; rfl) rfl ?_
          refine go_iload (pc' := 385) K at_383 rfl rfl ?_
          refine go_ic_ne_f (pc' := 388) K at_385 (by decide) rfl ?_
          refine go_aload (pc' := 390) K at_388 rfl rfl rfl ?_
          refine go_iconst (pc' := 391) (v := 0) K at_390 rfl rfl ?_
          refine go_baload (pc' := 392) (i := 5) (m := 0) (x := (nar .byte p2.toInt8.toInt32)) K rfl at_391 (by decide) (by rw [own_cp_get (by decide) (by rw [hwl]; decide)]; exact (own_w_hi (j := 0) (t := 0) (own_blk_len p0 p2) (by decide) (by decide)).trans (own_blk_get p0 p2).1) rfl ?_
          refine go_iload (pc' := 394) K at_392 rfl rfl ?_
          refine go_ic_ne_f (pc' := 397) K at_394 rfl rfl ?_
          refine go_iconst (pc' := 398) (v := 1) K at_397 rfl rfl ?_
          refine go_goto (pc' := 402) K at_398 (by decide) (by decide) ?_
          refine go_istore (pc' := 404) (Ls' := #[.val (.int p0), .val (.int p1), .val (.int p2), .val (.int p3), .val (.ref o), .val (.int f5), .val (.int 1), .val (.int 0), .val (.ref kb), .val (.int 130), .val (.ref r), .val (.int 1), .val (.int (nar .byte p2.toInt8.toInt32)), .val (.ref r2)]) K at_402 rfl rfl ?_
          refine go_goto (pc' := 432) K at_404 (by decide) (by decide) ?_
          refine go_iload (pc' := 434) K at_432 rfl rfl ?_
          exact go_zret K at_434 (by decide) (by decide) (Or.inr rfl) (by subst hQ; rfl)
        ·
          refine go_iload (pc' := 102) K at_100 rfl rfl ?_
          refine go_iconst (pc' := 103) (v := 1) K at_102 rfl rfl ?_
          refine go_ic_lt_f (pc' := 106) K at_103 (by decide) rfl ?_
          refine go_aload (pc' := 108) K at_106 rfl rfl rfl ?_
          refine go_iloadN (pc' := 109) K at_108 rfl rfl ?_
          refine go_virtual (pc' := 112) (Wd := 0) (i := 0) (y' := ⟨"com/example/hazusu/hazusu/StateBytes$Writer", "writeByte", "(I)V"⟩) (b := o) (argsL := [(.int p0)]) (rest := []) K (hw _ (List.mem_of_getElem? (i := 12) rfl)) (hw _ (List.mem_of_getElem? (i := 13) rfl)) (hw _ (List.mem_of_getElem? (i := 15) rfl)) (hw _ (List.mem_of_getElem? (i := 14) rfl)) (hw _ (List.mem_of_getElem? (i := 2) rfl)) (hw _ (List.mem_of_getElem? (i := 16) rfl)) rfl at_109 (ct_wb l Z h0 a0 hw [(u, ba xs), (kb, ba (own_blk p0 p2))] 0 o u 0 xs 0 p0 rfl hx rfl (by decide)) (lenOf pd__I_V rfl) rfl rfl (by decide) rfl (by decide) (by decide) (by decide) (by decide) rfl ?_
          rintro _ ds' ⟨rfl, hds⟩
          rw [hds]
          have hx1 : (xs.set 0 (nar .byte p0.toInt8.toInt32)).length = 128 := by rw [List.length_set]; exact hx
          have hf1 := own_set_fit hfit 0 p0.toInt8.toInt32
          show Go W Q [(o, .inr ("com/example/hazusu/hazusu/StateBytes$Writer", [(("com/example/hazusu/hazusu/StateBytes$Writer", "bytes", "[B"), .ref u), (("com/example/hazusu/hazusu/StateBytes$Writer", "length", "I"), .int 1)])), (u, ba (xs.set 0 (nar .byte p0.toInt8.toInt32))), (kb, ba (own_blk p0 p2))] 3 260 112 #[.val (.int p0), .val (.int p1), .val (.int p2), .val (.int p3), .val (.ref o), .val (.int f5), .val (.int 0), .val (.int 1), .val (.ref kb), .unset, .unset, .unset, .unset, .unset] []
          refine go_iload (pc' := 114) K at_112 rfl rfl ?_
          refine go_iconst (pc' := 115) (v := 2) K at_114 rfl rfl ?_
          refine go_ic_lt_t (pc' := 124) K at_115 (by decide) (by decide) (by decide) ?_
          refine go_iload (pc' := 126) K at_124 rfl rfl ?_
          refine go_iconst (pc' := 127) (v := 3) K at_126 rfl rfl ?_
          refine go_ic_lt_t (pc' := 136) K at_127 (by decide) (by decide) (by decide) ?_
          refine go_iload (pc' := 138) K at_136 rfl rfl ?_
          refine go_if_eq_t (pc' := 148) K at_138 (by decide) (by decide) (by decide) ?_
          refine go_iload (pc' := 150) K at_148 rfl rfl ?_
          refine go_iload (pc' := 152) K at_150 rfl rfl ?_
          refine go_if_eq_t (pc' := 161) K at_152 (by decide) (by decide) (by decide) ?_
          refine go_iconst (pc' := 162) (v := 0) K at_161 rfl rfl ?_
          refine go_iadd (pc' := 163) K at_162 rfl ?_
          rw [show ((1 + 0) : Int32) = 1 from by decide]
          refine go_istore (pc' := 165) (Ls' := #[.val (.int p0), .val (.int p1), .val (.int p2), .val (.int p3), .val (.ref o), .val (.int f5), .val (.int 0), .val (.int 1), .val (.ref kb), .val (.int 1), .unset, .unset, .unset, .unset]) K at_163 rfl rfl ?_
          refine go_aload (pc' := 167) K at_165 rfl rfl rfl ?_
          refine go_virtual (pc' := 170) (Wd := 0) (i := 0) (y' := ⟨"com/example/hazusu/hazusu/StateBytes$Writer", "toByteArray", "()[B"⟩) (b := o) (argsL := []) (rest := []) K (hw _ (List.mem_of_getElem? (i := 23) rfl)) (hw _ (List.mem_of_getElem? (i := 24) rfl)) (hw _ (List.mem_of_getElem? (i := 26) rfl)) (hw _ (List.mem_of_getElem? (i := 25) rfl)) (hw _ (List.mem_of_getElem? (i := 2) rfl)) (hw _ (List.mem_of_getElem? (i := 27) rfl)) rfl at_167 (ct_tba l Z h0 a0 hw [(u, ba (xs.set 0 (nar .byte p0.toInt8.toInt32))), (kb, ba (own_blk p0 p2))] 0 o u 1 (xs.set 0 (nar .byte p0.toInt8.toInt32)) 1 rfl (by rw [hx1]; decide) (by rw [hx1]; decide) (by decide) hf1 rfl) (lenOf pd____B rfl) rfl rfl (by decide) rfl (by decide) (by decide) (by decide) (by decide) rfl ?_
          rintro _ ds' ⟨r, rfl, hds⟩
          rw [hds]
          show Go W Q [(o, .inr ("com/example/hazusu/hazusu/StateBytes$Writer", [(("com/example/hazusu/hazusu/StateBytes$Writer", "bytes", "[B"), .ref u), (("com/example/hazusu/hazusu/StateBytes$Writer", "length", "I"), .int 1)])), (u, ba (xs.set 0 (nar .byte p0.toInt8.toInt32))), (kb, ba (own_blk p0 p2)), (r, ba (own_cp (xs.set 0 (nar .byte p0.toInt8.toInt32)) 1))] 4 516 170 #[.val (.int p0), .val (.int p1), .val (.int p2), .val (.int p3), .val (.ref o), .val (.int f5), .val (.int 0), .val (.int 1), .val (.ref kb), .val (.int 1), .unset, .unset, .unset, .unset] [(.ref r)]
          refine go_astore (pc' := 172) (Ls' := #[.val (.int p0), .val (.int p1), .val (.int p2), .val (.int p3), .val (.ref o), .val (.int f5), .val (.int 0), .val (.int 1), .val (.ref kb), .val (.int 1), .val (.ref r), .unset, .unset, .unset]) K at_170 rfl rfl rfl ?_
          refine go_aload (pc' := 174) K at_172 rfl rfl rfl ?_
          refine go_alen (pc' := 175) (i := 3) (z := 1) K rfl at_174 (by rw [List.length_map, own_cp_len]; rfl) rfl ?_
          refine go_iload (pc' := 177) K at_175 rfl rfl ?_
          refine go_ic_eq_t (pc' := 182) K at_177 (by decide) (by decide) (by decide) ?_
          refine go_iconst (pc' := 183) (v := 1) K at_182 rfl rfl ?_
          refine go_istore (pc' := 185) (Ls' := #[.val (.int p0), .val (.int p1), .val (.int p2), .val (.int p3), .val (.ref o), .val (.int f5), .val (.int 0), .val (.int 1), .val (.ref kb), .val (.int 1), .val (.ref r), .val (.int 1), .unset, .unset]) K at_183 rfl rfl ?_
          refine go_iload (pc' := 187) K at_185 rfl rfl ?_
          refine go_iconst (pc' := 188) (v := 1) K at_187 rfl rfl ?_
          refine go_ic_lt_f (pc' := 191) K at_188 (by decide) rfl ?_
          refine go_iload (pc' := 193) K at_191 rfl rfl ?_
          refine go_if_eq_f (pc' := 196) K at_193 (by decide) rfl ?_
          refine go_aload (pc' := 198) K at_196 rfl rfl rfl ?_
          refine go_iconst (pc' := 199) (v := 0) K at_198 rfl rfl ?_
          refine go_baload (pc' := 200) (i := 3) (m := 0) (x := (nar .byte p0.toInt8.toInt32)) K rfl at_199 (by decide) (by rw [own_cp_get (by decide) (by rw [hx1]; decide)]; simp [List.getElem?_set, hx]) rfl ?_
          refine go_iloadN (pc' := 201) K at_200 rfl rfl ?_
          refine go_i2b (pc' := 202) K at_201 rfl ?_
          refine go_ic_ne_f (pc' := 205) K at_202 (own_nar p0) rfl ?_
          refine go_iconst (pc' := 206) (v := 1) K at_205 rfl rfl ?_
          refine go_goto (pc' := 210) K at_206 (by decide) (by decide) ?_
          refine go_istore (pc' := 212) (Ls' := #[.val (.int p0), .val (.int p1), .val (.int p2), .val (.int p3), .val (.ref o), .val (.int f5), .val (.int 0), .val (.int 1), .val (.ref kb), .val (.int 1), .val (.ref r), .val (.int 1), .unset, .unset]) K at_210 rfl rfl ?_
          refine go_iload (pc' := 214) K at_212 rfl rfl ?_
          refine go_iconst (pc' := 215) (v := 2) K at_214 rfl rfl ?_
          refine go_ic_lt_t (pc' := 239) K at_215 (by decide) (by decide) (by decide) ?_
          refine go_iload (pc' := 241) K at_239 rfl rfl ?_
          refine go_iconst (pc' := 242) (v := 3) K at_241 rfl rfl ?_
          refine go_ic_lt_t (pc' := 266) K at_242 (by decide) (by decide) (by decide) ?_
          refine go_iload (pc' := 268) K at_266 rfl rfl ?_
          refine go_if_eq_t (pc' := 348) K at_268 (by decide) (by decide) (by decide) ?_
          refine go_iload (pc' := 350) K at_348 rfl rfl ?_
          refine go_if_le_f (pc' := 353) K at_350 (by decide) rfl ?_
          refine go_aload (pc' := 355) K at_353 rfl rfl rfl ?_
          refine go_iconst (pc' := 356) (v := 0) K at_355 rfl rfl ?_
          refine go_baload (pc' := 357) (i := 3) (m := 0) (x := (nar .byte p0.toInt8.toInt32)) K rfl at_356 (by decide) (by rw [own_cp_get (by decide) (by rw [hx1]; decide)]; simp [List.getElem?_set, hx]) rfl ?_
          refine go_istore (pc' := 359) (Ls' := #[.val (.int p0), .val (.int p1), .val (.int p2), .val (.int p3), .val (.ref o), .val (.int f5), .val (.int 0), .val (.int 1), .val (.ref kb), .val (.int 1), .val (.ref r), .val (.int 1), .val (.int (nar .byte p0.toInt8.toInt32)), .unset]) K at_357 rfl rfl ?_
          refine go_aload (pc' := 361) K at_359 rfl rfl rfl ?_
          refine go_iconst (pc' := 362) (v := 0) K at_361 rfl rfl ?_
          refine go_iload (pc' := 364) K at_362 rfl rfl ?_
          refine go_iconst (pc' := 365) (v := 1) K at_364 rfl rfl ?_
          refine go_ixor (pc' := 366) K at_365 rfl ?_
          refine go_i2b (pc' := 367) K at_366 rfl ?_
          refine go_bastore (pc' := 368) (i := 3) (m := 0) (ds' := [(o, .inr ("com/example/hazusu/hazusu/StateBytes$Writer", [(("com/example/hazusu/hazusu/StateBytes$Writer", "bytes", "[B"), .ref u), (("com/example/hazusu/hazusu/StateBytes$Writer", "length", "I"), .int 1)])), (u, ba (xs.set 0 (nar .byte p0.toInt8.toInt32))), (kb, ba (own_blk p0 p2)), (r, ba ((own_cp (xs.set 0 (nar .byte p0.toInt8.toInt32)) 1).set 0 (nar .byte ((nar .byte p0.toInt8.toInt32) ^^^ 1).toInt8.toInt32)))]) K rfl at_367 (by decide) (by rw [own_cp_len]; decide) rfl rfl ?_
          refine go_aload (pc' := 370) K at_368 rfl rfl rfl ?_
          refine go_virtual (pc' := 373) (Wd := 0) (i := 0) (y' := ⟨"com/example/hazusu/hazusu/StateBytes$Writer", "toByteArray", "()[B"⟩) (b := o) (argsL := []) (rest := []) K (hw _ (List.mem_of_getElem? (i := 23) rfl)) (hw _ (List.mem_of_getElem? (i := 24) rfl)) (hw _ (List.mem_of_getElem? (i := 26) rfl)) (hw _ (List.mem_of_getElem? (i := 25) rfl)) (hw _ (List.mem_of_getElem? (i := 2) rfl)) (hw _ (List.mem_of_getElem? (i := 27) rfl)) rfl at_370 (ct_tba l Z h0 a0 hw [(u, ba (xs.set 0 (nar .byte p0.toInt8.toInt32))), (kb, ba (own_blk p0 p2)), (r, ba ((own_cp (xs.set 0 (nar .byte p0.toInt8.toInt32)) 1).set 0 (nar .byte ((nar .byte p0.toInt8.toInt32) ^^^ 1).toInt8.toInt32)))] 0 o u 1 (xs.set 0 (nar .byte p0.toInt8.toInt32)) 1 rfl (by rw [hx1]; decide) (by rw [hx1]; decide) (by decide) hf1 rfl) (lenOf pd____B rfl) rfl rfl (by decide) rfl (by decide) (by decide) (by decide) (by decide) rfl ?_
          rintro _ ds' ⟨r2, rfl, hds⟩
          rw [hds]
          show Go W Q [(o, .inr ("com/example/hazusu/hazusu/StateBytes$Writer", [(("com/example/hazusu/hazusu/StateBytes$Writer", "bytes", "[B"), .ref u), (("com/example/hazusu/hazusu/StateBytes$Writer", "length", "I"), .int 1)])), (u, ba (xs.set 0 (nar .byte p0.toInt8.toInt32))), (kb, ba (own_blk p0 p2)), (r, ba ((own_cp (xs.set 0 (nar .byte p0.toInt8.toInt32)) 1).set 0 (nar .byte ((nar .byte p0.toInt8.toInt32) ^^^ 1).toInt8.toInt32))), (r2, ba (own_cp (xs.set 0 (nar .byte p0.toInt8.toInt32)) 1))] 5 772 373 #[.val (.int p0), .val (.int p1), .val (.int p2), .val (.int p3), .val (.ref o), .val (.int f5), .val (.int 0), .val (.int 1), .val (.ref kb), .val (.int 1), .val (.ref r), .val (.int 1), .val (.int (nar .byte p0.toInt8.toInt32)), .unset] [(.ref r2)]
          refine go_astore (pc' := 375) (Ls' := #[.val (.int p0), .val (.int p1), .val (.int p2), .val (.int p3), .val (.ref o), .val (.int f5), .val (.int 0), .val (.int 1), .val (.ref kb), .val (.int 1), .val (.ref r), .val (.int 1), .val (.int (nar .byte p0.toInt8.toInt32)), .val (.ref r2)]) K at_373 rfl rfl rfl ?_
          refine go_iload (pc' := 377) K at_375 rfl rfl ?_
          refine go_if_eq_f (pc' := 380) K at_377 (by decide) rfl ?_
          refine go_aload (pc' := 382) K at_380 rfl rfl rfl ?_
          refine go_alen (pc' := 383) (i := 4) (z := 1) K rfl at_382 (by rw [List.length_map, own_cp_len]; rfl) rfl ?_
          refine go_iload (pc' := 385) K at_383 rfl rfl ?_
          refine go_ic_ne_f (pc' := 388) K at_385 (by decide) rfl ?_
          refine go_aload (pc' := 390) K at_388 rfl rfl rfl ?_
          refine go_iconst (pc' := 391) (v := 0) K at_390 rfl rfl ?_
          refine go_baload (pc' := 392) (i := 4) (m := 0) (x := (nar .byte p0.toInt8.toInt32)) K rfl at_391 (by decide) (by rw [own_cp_get (by decide) (by rw [hx1]; decide)]; simp [List.getElem?_set, hx]) rfl ?_
          refine go_iload (pc' := 394) K at_392 rfl rfl ?_
          refine go_ic_ne_f (pc' := 397) K at_394 rfl rfl ?_
          refine go_iconst (pc' := 398) (v := 1) K at_397 rfl rfl ?_
          refine go_goto (pc' := 402) K at_398 (by decide) (by decide) ?_
          refine go_istore (pc' := 404) (Ls' := #[.val (.int p0), .val (.int p1), .val (.int p2), .val (.int p3), .val (.ref o), .val (.int f5), .val (.int 0), .val (.int 1), .val (.ref kb), .val (.int 1), .val (.ref r), .val (.int 1), .val (.int (nar .byte p0.toInt8.toInt32)), .val (.ref r2)]) K at_402 rfl rfl ?_
          refine go_goto (pc' := 432) K at_404 (by decide) (by decide) ?_
          refine go_iload (pc' := 434) K at_432 rfl rfl ?_
          exact go_zret K at_434 (by decide) (by decide) (Or.inr rfl) (by subst hQ; rfl)
        ·
          refine go_iload (pc' := 102) K at_100 rfl rfl ?_
          refine go_iconst (pc' := 103) (v := 1) K at_102 rfl rfl ?_
          refine go_ic_lt_f (pc' := 106) K at_103 (by decide) rfl ?_
          refine go_aload (pc' := 108) K at_106 rfl rfl rfl ?_
          refine go_iloadN (pc' := 109) K at_108 rfl rfl ?_
          refine go_virtual (pc' := 112) (Wd := 0) (i := 0) (y' := ⟨"com/example/hazusu/hazusu/StateBytes$Writer", "writeByte", "(I)V"⟩) (b := o) (argsL := [(.int p0)]) (rest := []) K (hw _ (List.mem_of_getElem? (i := 12) rfl)) (hw _ (List.mem_of_getElem? (i := 13) rfl)) (hw _ (List.mem_of_getElem? (i := 15) rfl)) (hw _ (List.mem_of_getElem? (i := 14) rfl)) (hw _ (List.mem_of_getElem? (i := 2) rfl)) (hw _ (List.mem_of_getElem? (i := 16) rfl)) rfl at_109 (ct_wb l Z h0 a0 hw [(u, ba xs), (kb, ba (own_blk p0 p2))] 0 o u 0 xs 0 p0 rfl hx rfl (by decide)) (lenOf pd__I_V rfl) rfl rfl (by decide) rfl (by decide) (by decide) (by decide) (by decide) rfl ?_
          rintro _ ds' ⟨rfl, hds⟩
          rw [hds]
          have hx1 : (xs.set 0 (nar .byte p0.toInt8.toInt32)).length = 128 := by rw [List.length_set]; exact hx
          have hf1 := own_set_fit hfit 0 p0.toInt8.toInt32
          show Go W Q [(o, .inr ("com/example/hazusu/hazusu/StateBytes$Writer", [(("com/example/hazusu/hazusu/StateBytes$Writer", "bytes", "[B"), .ref u), (("com/example/hazusu/hazusu/StateBytes$Writer", "length", "I"), .int 1)])), (u, ba (xs.set 0 (nar .byte p0.toInt8.toInt32))), (kb, ba (own_blk p0 p2))] 3 260 112 #[.val (.int p0), .val (.int p1), .val (.int p2), .val (.int p3), .val (.ref o), .val (.int f5), .val (.int 1), .val (.int 1), .val (.ref kb), .unset, .unset, .unset, .unset, .unset] []
          refine go_iload (pc' := 114) K at_112 rfl rfl ?_
          refine go_iconst (pc' := 115) (v := 2) K at_114 rfl rfl ?_
          refine go_ic_lt_t (pc' := 124) K at_115 (by decide) (by decide) (by decide) ?_
          refine go_iload (pc' := 126) K at_124 rfl rfl ?_
          refine go_iconst (pc' := 127) (v := 3) K at_126 rfl rfl ?_
          refine go_ic_lt_t (pc' := 136) K at_127 (by decide) (by decide) (by decide) ?_
          refine go_iload (pc' := 138) K at_136 rfl rfl ?_
          refine go_if_eq_f (pc' := 141) K at_138 (by decide) rfl ?_
          refine go_aload (pc' := 143) K at_141 rfl rfl rfl ?_
          refine go_aload (pc' := 145) K at_143 rfl rfl rfl ?_
          refine go_virtual (pc' := 148) (Wd := 0) (i := 0) (y' := ⟨"com/example/hazusu/hazusu/StateBytes$Writer", "writeBytes", "([B)V"⟩) (b := o) (argsL := [(.ref kb)]) (rest := []) K (hw _ (List.mem_of_getElem? (i := 40) rfl)) (hw _ (List.mem_of_getElem? (i := 41) rfl)) (hw _ (List.mem_of_getElem? (i := 43) rfl)) (hw _ (List.mem_of_getElem? (i := 42) rfl)) (hw _ (List.mem_of_getElem? (i := 2) rfl)) (hw _ (List.mem_of_getElem? (i := 44) rfl)) rfl at_145 (ct_wbs l Z h0 a0 hw [(u, ba (xs.set 0 (nar .byte p0.toInt8.toInt32))), (kb, ba (own_blk p0 p2))] 0 1 o u kb 1 (xs.set 0 (nar .byte p0.toInt8.toInt32)) (own_blk p0 p2) 1 rfl rfl hx1 (own_blk_len p0 p2) hf1 (own_blk_fit p0 p2) rfl (by decide)) (lenOf pd___B_V rfl) rfl rfl (by decide) rfl (by decide) (by decide) (by decide) (by decide) rfl ?_
          rintro _ ds' ⟨u2, rfl, hds⟩
          rw [hds]
          have hwl := own_w_len (xs := (xs.set 0 (nar .byte p0.toInt8.toInt32))) (j := 1) (own_blk_len p0 p2) (by decide)
          have hwf := own_w_fit (j := 1) hf1 (own_blk_fit p0 p2)
          show Go W Q [(o, .inr ("com/example/hazusu/hazusu/StateBytes$Writer", [(("com/example/hazusu/hazusu/StateBytes$Writer", "bytes", "[B"), .ref u2), (("com/example/hazusu/hazusu/StateBytes$Writer", "length", "I"), .int 131)])), (u, ba (xs.set 0 (nar .byte p0.toInt8.toInt32))), (kb, ba (own_blk p0 p2)), (u2, ba (own_w (xs.set 0 (nar .byte p0.toInt8.toInt32)) (own_blk p0 p2) 1))] 4 516 148 #[.val (.int p0), .val (.int p1), .val (.int p2), .val (.int p3), .val (.ref o), .val (.int f5), .val (.int 1), .val (.int 1), .val (.ref kb), .unset, .unset, .unset, .unset, .unset] []
          refine go_iload (pc' := 150) K at_148 rfl rfl ?_
          refine go_iload (pc' := 152) K at_150 rfl rfl ?_
          refine go_if_eq_f (pc' := 155) K at_152 (by decide) rfl ?_
          refine go_sipush (pc' := 158) (v := 130) K at_155 (by decide) rfl ?_
          refine go_goto (pc' := 162) K at_158 (by decide) (by decide) ?_
          refine go_iadd (pc' := 163) K at_162 rfl ?_
          rw [show ((1 + 130) : Int32) = 131 from by decide]
          refine go_istore (pc' := 165) (Ls' := #[.val (.int p0), .val (.int p1), .val (.int p2), .val (.int p3), .val (.ref o), .val (.int f5), .val (.int 1), .val (.int 1), .val (.ref kb), .val (.int 131), .unset, .unset, .unset, .unset]) K at_163 rfl rfl ?_
          refine go_aload (pc' := 167) K at_165 rfl rfl rfl ?_
          refine go_virtual (pc' := 170) (Wd := 0) (i := 0) (y' := ⟨"com/example/hazusu/hazusu/StateBytes$Writer", "toByteArray", "()[B"⟩) (b := o) (argsL := []) (rest := []) K (hw _ (List.mem_of_getElem? (i := 23) rfl)) (hw _ (List.mem_of_getElem? (i := 24) rfl)) (hw _ (List.mem_of_getElem? (i := 26) rfl)) (hw _ (List.mem_of_getElem? (i := 25) rfl)) (hw _ (List.mem_of_getElem? (i := 2) rfl)) (hw _ (List.mem_of_getElem? (i := 27) rfl)) rfl at_167 (ct_tba l Z h0 a0 hw [(u, ba (xs.set 0 (nar .byte p0.toInt8.toInt32))), (kb, ba (own_blk p0 p2)), (u2, ba (own_w (xs.set 0 (nar .byte p0.toInt8.toInt32)) (own_blk p0 p2) 1))] 2 o u2 131 (own_w (xs.set 0 (nar .byte p0.toInt8.toInt32)) (own_blk p0 p2) 1) 131 rfl (Nat.le_of_eq hwl) (by rw [hwl]; decide) (by decide) hwf rfl) (lenOf pd____B rfl) rfl rfl (by decide) rfl (by decide) (by decide) (by decide) (by decide) rfl ?_
          rintro _ ds' ⟨r, rfl, hds⟩
          rw [hds]
          show Go W Q [(o, .inr ("com/example/hazusu/hazusu/StateBytes$Writer", [(("com/example/hazusu/hazusu/StateBytes$Writer", "bytes", "[B"), .ref u2), (("com/example/hazusu/hazusu/StateBytes$Writer", "length", "I"), .int 131)])), (u, ba (xs.set 0 (nar .byte p0.toInt8.toInt32))), (kb, ba (own_blk p0 p2)), (u2, ba (own_w (xs.set 0 (nar .byte p0.toInt8.toInt32)) (own_blk p0 p2) 1)), (r, ba (own_cp (own_w (xs.set 0 (nar .byte p0.toInt8.toInt32)) (own_blk p0 p2) 1) 131))] 5 772 170 #[.val (.int p0), .val (.int p1), .val (.int p2), .val (.int p3), .val (.ref o), .val (.int f5), .val (.int 1), .val (.int 1), .val (.ref kb), .val (.int 131), .unset, .unset, .unset, .unset] [(.ref r)]
          refine go_astore (pc' := 172) (Ls' := #[.val (.int p0), .val (.int p1), .val (.int p2), .val (.int p3), .val (.ref o), .val (.int f5), .val (.int 1), .val (.int 1), .val (.ref kb), .val (.int 131), .val (.ref r), .unset, .unset, .unset]) K at_170 rfl rfl rfl ?_
          refine go_aload (pc' := 174) K at_172 rfl rfl rfl ?_
          refine go_alen (pc' := 175) (i := 4) (z := 131) K rfl at_174 (by rw [List.length_map, own_cp_len]; rfl) rfl ?_
          refine go_iload (pc' := 177) K at_175 rfl rfl ?_
          refine go_ic_eq_t (pc' := 182) K at_177 (by decide) (by decide) (by decide) ?_
          refine go_iconst (pc' := 183) (v := 1) K at_182 rfl rfl ?_
          refine go_istore (pc' := 185) (Ls' := #[.val (.int p0), .val (.int p1), .val (.int p2), .val (.int p3), .val (.ref o), .val (.int f5), .val (.int 1), .val (.int 1), .val (.ref kb), .val (.int 131), .val (.ref r), .val (.int 1), .unset, .unset]) K at_183 rfl rfl ?_
          refine go_iload (pc' := 187) K at_185 rfl rfl ?_
          refine go_iconst (pc' := 188) (v := 1) K at_187 rfl rfl ?_
          refine go_ic_lt_f (pc' := 191) K at_188 (by decide) rfl ?_
          refine go_iload (pc' := 193) K at_191 rfl rfl ?_
          refine go_if_eq_f (pc' := 196) K at_193 (by decide) rfl ?_
          refine go_aload (pc' := 198) K at_196 rfl rfl rfl ?_
          refine go_iconst (pc' := 199) (v := 0) K at_198 rfl rfl ?_
          refine go_baload (pc' := 200) (i := 4) (m := 0) (x := (nar .byte p0.toInt8.toInt32)) K rfl at_199 (by decide) (by rw [own_cp_get (by decide) (by rw [hwl]; decide)]; rw [own_w_lo hx1 (by decide) (by decide)]; simp [List.getElem?_set, hx]) rfl ?_
          refine go_iloadN (pc' := 201) K at_200 rfl rfl ?_
          refine go_i2b (pc' := 202) K at_201 rfl ?_
          refine go_ic_ne_f (pc' := 205) K at_202 (own_nar p0) rfl ?_
          refine go_iconst (pc' := 206) (v := 1) K at_205 rfl rfl ?_
          refine go_goto (pc' := 210) K at_206 (by decide) (by decide) ?_
          refine go_istore (pc' := 212) (Ls' := #[.val (.int p0), .val (.int p1), .val (.int p2), .val (.int p3), .val (.ref o), .val (.int f5), .val (.int 1), .val (.int 1), .val (.ref kb), .val (.int 131), .val (.ref r), .val (.int 1), .unset, .unset]) K at_210 rfl rfl ?_
          refine go_iload (pc' := 214) K at_212 rfl rfl ?_
          refine go_iconst (pc' := 215) (v := 2) K at_214 rfl rfl ?_
          refine go_ic_lt_t (pc' := 239) K at_215 (by decide) (by decide) (by decide) ?_
          refine go_iload (pc' := 241) K at_239 rfl rfl ?_
          refine go_iconst (pc' := 242) (v := 3) K at_241 rfl rfl ?_
          refine go_ic_lt_t (pc' := 266) K at_242 (by decide) (by decide) (by decide) ?_
          refine go_iload (pc' := 268) K at_266 rfl rfl ?_
          refine go_if_eq_f (pc' := 271) K at_268 (by decide) rfl ?_
          refine go_iload (pc' := 273) K at_271 rfl rfl ?_
          refine go_if_eq_f (pc' := 276) K at_273 (by decide) rfl ?_
          refine go_aload (pc' := 278) K at_276 rfl rfl rfl ?_
          refine go_iload (pc' := 280) K at_278 rfl rfl ?_
          refine go_baload (pc' := 281) (i := 4) (m := 1) (x := (nar .byte p2.toInt8.toInt32)) K rfl at_280 (by decide) (by rw [own_cp_get (by decide) (by rw [hwl]; decide)]; exact (own_w_hi (j := 1) (t := 0) (own_blk_len p0 p2) (by decide) (by decide)).trans (own_blk_get p0 p2).1) rfl ?_
          refine go_iloadN (pc' := 282) K at_281 rfl rfl ?_
          refine go_i2b (pc' := 283) K at_282 rfl ?_
          refine go_ic_ne_f (pc' := 286) K at_283 (own_nar p2) rfl ?_
          refine go_aload (pc' := 288) K at_286 rfl rfl rfl ?_
          refine go_iload (pc' := 290) K at_288 rfl rfl ?_
          refine go_iconst (pc' := 291) (v := 1) K at_290 rfl rfl ?_
          refine go_iadd (pc' := 292) K at_291 rfl ?_
          rw [show ((1 + 1) : Int32) = 2 from by decide]
          refine go_baload (pc' := 293) (i := 4) (m := 2) (x := 0) K rfl at_292 (by decide) (by rw [own_cp_get (by decide) (by rw [hwl]; decide)]; exact (own_w_hi (j := 1) (t := 1) (own_blk_len p0 p2) (by decide) (by decide)).trans (own_blk_get p0 p2).2.1) rfl ?_
          refine go_if_ne_f (pc' := 296) K at_293 (by decide) rfl ?_
          refine go_aload (pc' := 298) K at_296 rfl rfl rfl ?_
          refine go_iload (pc' := 300) K at_298 rfl rfl ?_
          refine go_bipush (pc' := 302) (v := 64) K at_300 (by decide) rfl ?_
          refine go_iadd (pc' := 303) K at_302 rfl ?_
          rw [show ((1 + 64) : Int32) = 65 from by decide]
          refine go_baload (pc' := 304) (i := 4) (m := 65) (x := (nar .byte (XT.ushr p0 16).toInt8.toInt32)) K rfl at_303 (by decide) (by rw [own_cp_get (by decide) (by rw [hwl]; decide)]; exact (own_w_hi (j := 1) (t := 64) (own_blk_len p0 p2) (by decide) (by decide)).trans (own_blk_get p0 p2).2.2.1) rfl ?_
          refine go_iloadN (pc' := 305) K at_304 rfl rfl ?_
          refine go_bipush (pc' := 307) (v := 16) K at_305 (by decide) rfl ?_
          refine go_iushr (pc' := 308) K at_307 rfl ?_
          refine go_i2b (pc' := 309) K at_308 rfl ?_
          refine go_ic_ne_f (pc' := 312) K at_309 (own_nar _) rfl ?_
          refine go_aload (pc' := 314) K at_312 rfl rfl rfl ?_
          refine go_iload (pc' := 316) K at_314 rfl rfl ?_
          refine go_sipush (pc' := 319) (v := 128) K at_316 (by decide) rfl ?_
          refine go_iadd (pc' := 320) K at_319 rfl ?_
          rw [show ((1 + 128) : Int32) = 129 from by decide]
          refine go_baload (pc' := 321) (i := 4) (m := 129) (x := 0) K rfl at_320 (by decide) (by rw [own_cp_get (by decide) (by rw [hwl]; decide)]; exact (own_w_hi (j := 1) (t := 128) (own_blk_len p0 p2) (by decide) (by decide)).trans (own_blk_get p0 p2).2.2.2.1) rfl ?_
          refine go_if_ne_f (pc' := 324) K at_321 (by decide) rfl ?_
          refine go_aload (pc' := 326) K at_324 rfl rfl rfl ?_
          refine go_iload (pc' := 328) K at_326 rfl rfl ?_
          refine go_sipush (pc' := 331) (v := 129) K at_328 (by decide) rfl ?_
          refine go_iadd (pc' := 332) K at_331 rfl ?_
          rw [show ((1 + 129) : Int32) = 130 from by decide]
          refine go_baload (pc' := 333) (i := 4) (m := 130) (x := (nar .byte (XT.ushr p2 8).toInt8.toInt32)) K rfl at_332 (by decide) (by rw [own_cp_get (by decide) (by rw [hwl]; decide)]; exact (own_w_hi (j := 1) (t := 129) (own_blk_len p0 p2) (by decide) (by decide)).trans (own_blk_get p0 p2).2.2.2.2) rfl ?_
          refine go_iloadN (pc' := 334) K at_333 rfl rfl ?_
          refine go_bipush (pc' := 336) (v := 8) K at_334 (by decide) rfl ?_
          refine go_iushr (pc' := 337) K at_336 rfl ?_
          refine go_i2b (pc' := 338) K at_337 rfl ?_
          refine go_ic_ne_f (pc' := 341) K at_338 (own_nar _) rfl ?_
          refine go_iconst (pc' := 342) (v := 1) K at_341 rfl rfl ?_
          refine go_goto (pc' := 346) K at_342 (by decide) (by decide) ?_
          refine go_istore (pc' := 348) (Ls' := #[.val (.int p0), .val (.int p1), .val (.int p2), .val (.int p3), .val (.ref o), .val (.int f5), .val (.int 1), .val (.int 1), .val (.ref kb), .val (.int 131), .val (.ref r), .val (.int 1), .unset, .unset]) K at_346 rfl rfl ?_
          refine go_iload (pc' := 350) K at_348 rfl rfl ?_
          refine go_if_le_f (pc' := 353) K at_350 (by decide) rfl ?_
          refine go_aload (pc' := 355) K at_353 rfl rfl rfl ?_
          refine go_iconst (pc' := 356) (v := 0) K at_355 rfl rfl ?_
          refine go_baload (pc' := 357) (i := 4) (m := 0) (x := (nar .byte p0.toInt8.toInt32)) K rfl at_356 (by decide) (by rw [own_cp_get (by decide) (by rw [hwl]; decide)]; rw [own_w_lo hx1 (by decide) (by decide)]; simp [List.getElem?_set, hx]) rfl ?_
          refine go_istore (pc' := 359) (Ls' := #[.val (.int p0), .val (.int p1), .val (.int p2), .val (.int p3), .val (.ref o), .val (.int f5), .val (.int 1), .val (.int 1), .val (.ref kb), .val (.int 131), .val (.ref r), .val (.int 1), .val (.int (nar .byte p0.toInt8.toInt32)), .unset]) K at_357 rfl rfl ?_
          refine go_aload (pc' := 361) K at_359 rfl rfl rfl ?_
          refine go_iconst (pc' := 362) (v := 0) K at_361 rfl rfl ?_
          refine go_iload (pc' := 364) K at_362 rfl rfl ?_
          refine go_iconst (pc' := 365) (v := 1) K at_364 rfl rfl ?_
          refine go_ixor (pc' := 366) K at_365 rfl ?_
          refine go_i2b (pc' := 367) K at_366 rfl ?_
          refine go_bastore (pc' := 368) (i := 4) (m := 0) (ds' := [(o, .inr ("com/example/hazusu/hazusu/StateBytes$Writer", [(("com/example/hazusu/hazusu/StateBytes$Writer", "bytes", "[B"), .ref u2), (("com/example/hazusu/hazusu/StateBytes$Writer", "length", "I"), .int 131)])), (u, ba (xs.set 0 (nar .byte p0.toInt8.toInt32))), (kb, ba (own_blk p0 p2)), (u2, ba (own_w (xs.set 0 (nar .byte p0.toInt8.toInt32)) (own_blk p0 p2) 1)), (r, ba ((own_cp (own_w (xs.set 0 (nar .byte p0.toInt8.toInt32)) (own_blk p0 p2) 1) 131).set 0 (nar .byte ((nar .byte p0.toInt8.toInt32) ^^^ 1).toInt8.toInt32)))]) K rfl at_367 (by decide) (by rw [own_cp_len]; decide) rfl rfl ?_
          refine go_aload (pc' := 370) K at_368 rfl rfl rfl ?_
          refine go_virtual (pc' := 373) (Wd := 0) (i := 0) (y' := ⟨"com/example/hazusu/hazusu/StateBytes$Writer", "toByteArray", "()[B"⟩) (b := o) (argsL := []) (rest := []) K (hw _ (List.mem_of_getElem? (i := 23) rfl)) (hw _ (List.mem_of_getElem? (i := 24) rfl)) (hw _ (List.mem_of_getElem? (i := 26) rfl)) (hw _ (List.mem_of_getElem? (i := 25) rfl)) (hw _ (List.mem_of_getElem? (i := 2) rfl)) (hw _ (List.mem_of_getElem? (i := 27) rfl)) rfl at_370 (ct_tba l Z h0 a0 hw [(u, ba (xs.set 0 (nar .byte p0.toInt8.toInt32))), (kb, ba (own_blk p0 p2)), (u2, ba (own_w (xs.set 0 (nar .byte p0.toInt8.toInt32)) (own_blk p0 p2) 1)), (r, ba ((own_cp (own_w (xs.set 0 (nar .byte p0.toInt8.toInt32)) (own_blk p0 p2) 1) 131).set 0 (nar .byte ((nar .byte p0.toInt8.toInt32) ^^^ 1).toInt8.toInt32)))] 2 o u2 131 (own_w (xs.set 0 (nar .byte p0.toInt8.toInt32)) (own_blk p0 p2) 1) 131 rfl (Nat.le_of_eq hwl) (by rw [hwl]; decide) (by decide) hwf rfl) (lenOf pd____B rfl) rfl rfl (by decide) rfl (by decide) (by decide) (by decide) (by decide) rfl ?_
          rintro _ ds' ⟨r2, rfl, hds⟩
          rw [hds]
          show Go W Q [(o, .inr ("com/example/hazusu/hazusu/StateBytes$Writer", [(("com/example/hazusu/hazusu/StateBytes$Writer", "bytes", "[B"), .ref u2), (("com/example/hazusu/hazusu/StateBytes$Writer", "length", "I"), .int 131)])), (u, ba (xs.set 0 (nar .byte p0.toInt8.toInt32))), (kb, ba (own_blk p0 p2)), (u2, ba (own_w (xs.set 0 (nar .byte p0.toInt8.toInt32)) (own_blk p0 p2) 1)), (r, ba ((own_cp (own_w (xs.set 0 (nar .byte p0.toInt8.toInt32)) (own_blk p0 p2) 1) 131).set 0 (nar .byte ((nar .byte p0.toInt8.toInt32) ^^^ 1).toInt8.toInt32))), (r2, ba (own_cp (own_w (xs.set 0 (nar .byte p0.toInt8.toInt32)) (own_blk p0 p2) 1) 131))] 6 1028 373 #[.val (.int p0), .val (.int p1), .val (.int p2), .val (.int p3), .val (.ref o), .val (.int f5), .val (.int 1), .val (.int 1), .val (.ref kb), .val (.int 131), .val (.ref r), .val (.int 1), .val (.int (nar .byte p0.toInt8.toInt32)), .unset] [(.ref r2)]
          refine go_astore (pc' := 375) (Ls' := #[.val (.int p0), .val (.int p1), .val (.int p2), .val (.int p3), .val (.ref o), .val (.int f5), .val (.int 1), .val (.int 1), .val (.ref kb), .val (.int 131), .val (.ref r), .val (.int 1), .val (.int (nar .byte p0.toInt8.toInt32)), .val (.ref r2)]) K at_373 rfl rfl rfl ?_
          refine go_iload (pc' := 377) K at_375 rfl rfl ?_
          refine go_if_eq_f (pc' := 380) K at_377 (by decide) rfl ?_
          refine go_aload (pc' := 382) K at_380 rfl rfl rfl ?_
          refine go_alen (pc' := 383) (i := 5) (z := 131) K rfl at_382 (by rw [List.length_map, own_cp_len]; rfl) rfl ?_
          refine go_iload (pc' := 385) K at_383 rfl rfl ?_
          refine go_ic_ne_f (pc' := 388) K at_385 (by decide) rfl ?_
          refine go_aload (pc' := 390) K at_388 rfl rfl rfl ?_
          refine go_iconst (pc' := 391) (v := 0) K at_390 rfl rfl ?_
          refine go_baload (pc' := 392) (i := 5) (m := 0) (x := (nar .byte p0.toInt8.toInt32)) K rfl at_391 (by decide) (by rw [own_cp_get (by decide) (by rw [hwl]; decide)]; rw [own_w_lo hx1 (by decide) (by decide)]; simp [List.getElem?_set, hx]) rfl ?_
          refine go_iload (pc' := 394) K at_392 rfl rfl ?_
          refine go_ic_ne_f (pc' := 397) K at_394 rfl rfl ?_
          refine go_iconst (pc' := 398) (v := 1) K at_397 rfl rfl ?_
          refine go_goto (pc' := 402) K at_398 (by decide) (by decide) ?_
          refine go_istore (pc' := 404) (Ls' := #[.val (.int p0), .val (.int p1), .val (.int p2), .val (.int p3), .val (.ref o), .val (.int f5), .val (.int 1), .val (.int 1), .val (.ref kb), .val (.int 131), .val (.ref r), .val (.int 1), .val (.int (nar .byte p0.toInt8.toInt32)), .val (.ref r2)]) K at_402 rfl rfl ?_
          refine go_goto (pc' := 432) K at_404 (by decide) (by decide) ?_
          refine go_iload (pc' := 434) K at_432 rfl rfl ?_
          exact go_zret K at_434 (by decide) (by decide) (Or.inr rfl) (by subst hQ; rfl)
        ·
          refine go_iload (pc' := 102) K at_100 rfl rfl ?_
          refine go_iconst (pc' := 103) (v := 1) K at_102 rfl rfl ?_
          refine go_ic_lt_f (pc' := 106) K at_103 (by decide) rfl ?_
          refine go_aload (pc' := 108) K at_106 rfl rfl rfl ?_
          refine go_iloadN (pc' := 109) K at_108 rfl rfl ?_
          refine go_virtual (pc' := 112) (Wd := 0) (i := 0) (y' := ⟨"com/example/hazusu/hazusu/StateBytes$Writer", "writeByte", "(I)V"⟩) (b := o) (argsL := [(.int p0)]) (rest := []) K (hw _ (List.mem_of_getElem? (i := 12) rfl)) (hw _ (List.mem_of_getElem? (i := 13) rfl)) (hw _ (List.mem_of_getElem? (i := 15) rfl)) (hw _ (List.mem_of_getElem? (i := 14) rfl)) (hw _ (List.mem_of_getElem? (i := 2) rfl)) (hw _ (List.mem_of_getElem? (i := 16) rfl)) rfl at_109 (ct_wb l Z h0 a0 hw [(u, ba xs), (kb, ba (own_blk p0 p2))] 0 o u 0 xs 0 p0 rfl hx rfl (by decide)) (lenOf pd__I_V rfl) rfl rfl (by decide) rfl (by decide) (by decide) (by decide) (by decide) rfl ?_
          rintro _ ds' ⟨rfl, hds⟩
          rw [hds]
          have hx1 : (xs.set 0 (nar .byte p0.toInt8.toInt32)).length = 128 := by rw [List.length_set]; exact hx
          have hf1 := own_set_fit hfit 0 p0.toInt8.toInt32
          show Go W Q [(o, .inr ("com/example/hazusu/hazusu/StateBytes$Writer", [(("com/example/hazusu/hazusu/StateBytes$Writer", "bytes", "[B"), .ref u), (("com/example/hazusu/hazusu/StateBytes$Writer", "length", "I"), .int 1)])), (u, ba (xs.set 0 (nar .byte p0.toInt8.toInt32))), (kb, ba (own_blk p0 p2))] 3 260 112 #[.val (.int p0), .val (.int p1), .val (.int p2), .val (.int p3), .val (.ref o), .val (.int f5), .val (.int 0), .val (.int 2), .val (.ref kb), .unset, .unset, .unset, .unset, .unset] []
          refine go_iload (pc' := 114) K at_112 rfl rfl ?_
          refine go_iconst (pc' := 115) (v := 2) K at_114 rfl rfl ?_
          refine go_ic_lt_f (pc' := 118) K at_115 (by decide) rfl ?_
          refine go_aload (pc' := 120) K at_118 rfl rfl rfl ?_
          refine go_iloadN (pc' := 121) K at_120 rfl rfl ?_
          refine go_virtual (pc' := 124) (Wd := 0) (i := 0) (y' := ⟨"com/example/hazusu/hazusu/StateBytes$Writer", "writeByte", "(I)V"⟩) (b := o) (argsL := [(.int p1)]) (rest := []) K (hw _ (List.mem_of_getElem? (i := 12) rfl)) (hw _ (List.mem_of_getElem? (i := 13) rfl)) (hw _ (List.mem_of_getElem? (i := 15) rfl)) (hw _ (List.mem_of_getElem? (i := 14) rfl)) (hw _ (List.mem_of_getElem? (i := 2) rfl)) (hw _ (List.mem_of_getElem? (i := 16) rfl)) rfl at_121 (ct_wb l Z h0 a0 hw [(u, ba (xs.set 0 (nar .byte p0.toInt8.toInt32))), (kb, ba (own_blk p0 p2))] 0 o u 1 (xs.set 0 (nar .byte p0.toInt8.toInt32)) 1 p1 rfl hx1 rfl (by decide)) (lenOf pd__I_V rfl) rfl rfl (by decide) rfl (by decide) (by decide) (by decide) (by decide) rfl ?_
          rintro _ ds' ⟨rfl, hds⟩
          rw [hds]
          have hx2 : ((xs.set 0 (nar .byte p0.toInt8.toInt32)).set 1 (nar .byte p1.toInt8.toInt32)).length = 128 := by rw [List.length_set]; exact hx1
          have hf2 := own_set_fit hf1 1 p1.toInt8.toInt32
          show Go W Q [(o, .inr ("com/example/hazusu/hazusu/StateBytes$Writer", [(("com/example/hazusu/hazusu/StateBytes$Writer", "bytes", "[B"), .ref u), (("com/example/hazusu/hazusu/StateBytes$Writer", "length", "I"), .int 2)])), (u, ba ((xs.set 0 (nar .byte p0.toInt8.toInt32)).set 1 (nar .byte p1.toInt8.toInt32))), (kb, ba (own_blk p0 p2))] 3 260 124 #[.val (.int p0), .val (.int p1), .val (.int p2), .val (.int p3), .val (.ref o), .val (.int f5), .val (.int 0), .val (.int 2), .val (.ref kb), .unset, .unset, .unset, .unset, .unset] []
          refine go_iload (pc' := 126) K at_124 rfl rfl ?_
          refine go_iconst (pc' := 127) (v := 3) K at_126 rfl rfl ?_
          refine go_ic_lt_t (pc' := 136) K at_127 (by decide) (by decide) (by decide) ?_
          refine go_iload (pc' := 138) K at_136 rfl rfl ?_
          refine go_if_eq_t (pc' := 148) K at_138 (by decide) (by decide) (by decide) ?_
          refine go_iload (pc' := 150) K at_148 rfl rfl ?_
          refine go_iload (pc' := 152) K at_150 rfl rfl ?_
          refine go_if_eq_t (pc' := 161) K at_152 (by decide) (by decide) (by decide) ?_
          refine go_iconst (pc' := 162) (v := 0) K at_161 rfl rfl ?_
          refine go_iadd (pc' := 163) K at_162 rfl ?_
          rw [show ((2 + 0) : Int32) = 2 from by decide]
          refine go_istore (pc' := 165) (Ls' := #[.val (.int p0), .val (.int p1), .val (.int p2), .val (.int p3), .val (.ref o), .val (.int f5), .val (.int 0), .val (.int 2), .val (.ref kb), .val (.int 2), .unset, .unset, .unset, .unset]) K at_163 rfl rfl ?_
          refine go_aload (pc' := 167) K at_165 rfl rfl rfl ?_
          refine go_virtual (pc' := 170) (Wd := 0) (i := 0) (y' := ⟨"com/example/hazusu/hazusu/StateBytes$Writer", "toByteArray", "()[B"⟩) (b := o) (argsL := []) (rest := []) K (hw _ (List.mem_of_getElem? (i := 23) rfl)) (hw _ (List.mem_of_getElem? (i := 24) rfl)) (hw _ (List.mem_of_getElem? (i := 26) rfl)) (hw _ (List.mem_of_getElem? (i := 25) rfl)) (hw _ (List.mem_of_getElem? (i := 2) rfl)) (hw _ (List.mem_of_getElem? (i := 27) rfl)) rfl at_167 (ct_tba l Z h0 a0 hw [(u, ba ((xs.set 0 (nar .byte p0.toInt8.toInt32)).set 1 (nar .byte p1.toInt8.toInt32))), (kb, ba (own_blk p0 p2))] 0 o u 2 ((xs.set 0 (nar .byte p0.toInt8.toInt32)).set 1 (nar .byte p1.toInt8.toInt32)) 2 rfl (by rw [hx2]; decide) (by rw [hx2]; decide) (by decide) hf2 rfl) (lenOf pd____B rfl) rfl rfl (by decide) rfl (by decide) (by decide) (by decide) (by decide) rfl ?_
          rintro _ ds' ⟨r, rfl, hds⟩
          rw [hds]
          show Go W Q [(o, .inr ("com/example/hazusu/hazusu/StateBytes$Writer", [(("com/example/hazusu/hazusu/StateBytes$Writer", "bytes", "[B"), .ref u), (("com/example/hazusu/hazusu/StateBytes$Writer", "length", "I"), .int 2)])), (u, ba ((xs.set 0 (nar .byte p0.toInt8.toInt32)).set 1 (nar .byte p1.toInt8.toInt32))), (kb, ba (own_blk p0 p2)), (r, ba (own_cp ((xs.set 0 (nar .byte p0.toInt8.toInt32)).set 1 (nar .byte p1.toInt8.toInt32)) 2))] 4 516 170 #[.val (.int p0), .val (.int p1), .val (.int p2), .val (.int p3), .val (.ref o), .val (.int f5), .val (.int 0), .val (.int 2), .val (.ref kb), .val (.int 2), .unset, .unset, .unset, .unset] [(.ref r)]
          refine go_astore (pc' := 172) (Ls' := #[.val (.int p0), .val (.int p1), .val (.int p2), .val (.int p3), .val (.ref o), .val (.int f5), .val (.int 0), .val (.int 2), .val (.ref kb), .val (.int 2), .val (.ref r), .unset, .unset, .unset]) K at_170 rfl rfl rfl ?_
          refine go_aload (pc' := 174) K at_172 rfl rfl rfl ?_
          refine go_alen (pc' := 175) (i := 3) (z := 2) K rfl at_174 (by rw [List.length_map, own_cp_len]; rfl) rfl ?_
          refine go_iload (pc' := 177) K at_175 rfl rfl ?_
          refine go_ic_eq_t (pc' := 182) K at_177 (by decide) (by decide) (by decide) ?_
          refine go_iconst (pc' := 183) (v := 1) K at_182 rfl rfl ?_
          refine go_istore (pc' := 185) (Ls' := #[.val (.int p0), .val (.int p1), .val (.int p2), .val (.int p3), .val (.ref o), .val (.int f5), .val (.int 0), .val (.int 2), .val (.ref kb), .val (.int 2), .val (.ref r), .val (.int 1), .unset, .unset]) K at_183 rfl rfl ?_
          refine go_iload (pc' := 187) K at_185 rfl rfl ?_
          refine go_iconst (pc' := 188) (v := 1) K at_187 rfl rfl ?_
          refine go_ic_lt_f (pc' := 191) K at_188 (by decide) rfl ?_
          refine go_iload (pc' := 193) K at_191 rfl rfl ?_
          refine go_if_eq_f (pc' := 196) K at_193 (by decide) rfl ?_
          refine go_aload (pc' := 198) K at_196 rfl rfl rfl ?_
          refine go_iconst (pc' := 199) (v := 0) K at_198 rfl rfl ?_
          refine go_baload (pc' := 200) (i := 3) (m := 0) (x := (nar .byte p0.toInt8.toInt32)) K rfl at_199 (by decide) (by rw [own_cp_get (by decide) (by rw [hx2]; decide)]; simp [List.getElem?_set, hx]) rfl ?_
          refine go_iloadN (pc' := 201) K at_200 rfl rfl ?_
          refine go_i2b (pc' := 202) K at_201 rfl ?_
          refine go_ic_ne_f (pc' := 205) K at_202 (own_nar p0) rfl ?_
          refine go_iconst (pc' := 206) (v := 1) K at_205 rfl rfl ?_
          refine go_goto (pc' := 210) K at_206 (by decide) (by decide) ?_
          refine go_istore (pc' := 212) (Ls' := #[.val (.int p0), .val (.int p1), .val (.int p2), .val (.int p3), .val (.ref o), .val (.int f5), .val (.int 0), .val (.int 2), .val (.ref kb), .val (.int 2), .val (.ref r), .val (.int 1), .unset, .unset]) K at_210 rfl rfl ?_
          refine go_iload (pc' := 214) K at_212 rfl rfl ?_
          refine go_iconst (pc' := 215) (v := 2) K at_214 rfl rfl ?_
          refine go_ic_lt_f (pc' := 218) K at_215 (by decide) rfl ?_
          refine go_iload (pc' := 220) K at_218 rfl rfl ?_
          refine go_if_eq_f (pc' := 223) K at_220 (by decide) rfl ?_
          refine go_aload (pc' := 225) K at_223 rfl rfl rfl ?_
          refine go_iconst (pc' := 226) (v := 1) K at_225 rfl rfl ?_
          refine go_baload (pc' := 227) (i := 3) (m := 1) (x := (nar .byte p1.toInt8.toInt32)) K rfl at_226 (by decide) (by rw [own_cp_get (by decide) (by rw [hx2]; decide)]; simp [List.getElem?_set, hx]) rfl ?_
          refine go_iloadN (pc' := 228) K at_227 rfl rfl ?_
          refine go_i2b (pc' := 229) K at_228 rfl ?_
          refine go_ic_ne_f (pc' := 232) K at_229 (own_nar p1) rfl ?_
          refine go_iconst (pc' := 233) (v := 1) K at_232 rfl rfl ?_
          refine go_goto (pc' := 237) K at_233 (by decide) (by decide) ?_
          refine go_istore (pc' := 239) (Ls' := #[.val (.int p0), .val (.int p1), .val (.int p2), .val (.int p3), .val (.ref o), .val (.int f5), .val (.int 0), .val (.int 2), .val (.ref kb), .val (.int 2), .val (.ref r), .val (.int 1), .unset, .unset]) K at_237 rfl rfl ?_
          refine go_iload (pc' := 241) K at_239 rfl rfl ?_
          refine go_iconst (pc' := 242) (v := 3) K at_241 rfl rfl ?_
          refine go_ic_lt_t (pc' := 266) K at_242 (by decide) (by decide) (by decide) ?_
          refine go_iload (pc' := 268) K at_266 rfl rfl ?_
          refine go_if_eq_t (pc' := 348) K at_268 (by decide) (by decide) (by decide) ?_
          refine go_iload (pc' := 350) K at_348 rfl rfl ?_
          refine go_if_le_f (pc' := 353) K at_350 (by decide) rfl ?_
          refine go_aload (pc' := 355) K at_353 rfl rfl rfl ?_
          refine go_iconst (pc' := 356) (v := 0) K at_355 rfl rfl ?_
          refine go_baload (pc' := 357) (i := 3) (m := 0) (x := (nar .byte p0.toInt8.toInt32)) K rfl at_356 (by decide) (by rw [own_cp_get (by decide) (by rw [hx2]; decide)]; simp [List.getElem?_set, hx]) rfl ?_
          refine go_istore (pc' := 359) (Ls' := #[.val (.int p0), .val (.int p1), .val (.int p2), .val (.int p3), .val (.ref o), .val (.int f5), .val (.int 0), .val (.int 2), .val (.ref kb), .val (.int 2), .val (.ref r), .val (.int 1), .val (.int (nar .byte p0.toInt8.toInt32)), .unset]) K at_357 rfl rfl ?_
          refine go_aload (pc' := 361) K at_359 rfl rfl rfl ?_
          refine go_iconst (pc' := 362) (v := 0) K at_361 rfl rfl ?_
          refine go_iload (pc' := 364) K at_362 rfl rfl ?_
          refine go_iconst (pc' := 365) (v := 1) K at_364 rfl rfl ?_
          refine go_ixor (pc' := 366) K at_365 rfl ?_
          refine go_i2b (pc' := 367) K at_366 rfl ?_
          refine go_bastore (pc' := 368) (i := 3) (m := 0) (ds' := [(o, .inr ("com/example/hazusu/hazusu/StateBytes$Writer", [(("com/example/hazusu/hazusu/StateBytes$Writer", "bytes", "[B"), .ref u), (("com/example/hazusu/hazusu/StateBytes$Writer", "length", "I"), .int 2)])), (u, ba ((xs.set 0 (nar .byte p0.toInt8.toInt32)).set 1 (nar .byte p1.toInt8.toInt32))), (kb, ba (own_blk p0 p2)), (r, ba ((own_cp ((xs.set 0 (nar .byte p0.toInt8.toInt32)).set 1 (nar .byte p1.toInt8.toInt32)) 2).set 0 (nar .byte ((nar .byte p0.toInt8.toInt32) ^^^ 1).toInt8.toInt32)))]) K rfl at_367 (by decide) (by rw [own_cp_len]; decide) rfl rfl ?_
          refine go_aload (pc' := 370) K at_368 rfl rfl rfl ?_
          refine go_virtual (pc' := 373) (Wd := 0) (i := 0) (y' := ⟨"com/example/hazusu/hazusu/StateBytes$Writer", "toByteArray", "()[B"⟩) (b := o) (argsL := []) (rest := []) K (hw _ (List.mem_of_getElem? (i := 23) rfl)) (hw _ (List.mem_of_getElem? (i := 24) rfl)) (hw _ (List.mem_of_getElem? (i := 26) rfl)) (hw _ (List.mem_of_getElem? (i := 25) rfl)) (hw _ (List.mem_of_getElem? (i := 2) rfl)) (hw _ (List.mem_of_getElem? (i := 27) rfl)) rfl at_370 (ct_tba l Z h0 a0 hw [(u, ba ((xs.set 0 (nar .byte p0.toInt8.toInt32)).set 1 (nar .byte p1.toInt8.toInt32))), (kb, ba (own_blk p0 p2)), (r, ba ((own_cp ((xs.set 0 (nar .byte p0.toInt8.toInt32)).set 1 (nar .byte p1.toInt8.toInt32)) 2).set 0 (nar .byte ((nar .byte p0.toInt8.toInt32) ^^^ 1).toInt8.toInt32)))] 0 o u 2 ((xs.set 0 (nar .byte p0.toInt8.toInt32)).set 1 (nar .byte p1.toInt8.toInt32)) 2 rfl (by rw [hx2]; decide) (by rw [hx2]; decide) (by decide) hf2 rfl) (lenOf pd____B rfl) rfl rfl (by decide) rfl (by decide) (by decide) (by decide) (by decide) rfl ?_
          rintro _ ds' ⟨r2, rfl, hds⟩
          rw [hds]
          show Go W Q [(o, .inr ("com/example/hazusu/hazusu/StateBytes$Writer", [(("com/example/hazusu/hazusu/StateBytes$Writer", "bytes", "[B"), .ref u), (("com/example/hazusu/hazusu/StateBytes$Writer", "length", "I"), .int 2)])), (u, ba ((xs.set 0 (nar .byte p0.toInt8.toInt32)).set 1 (nar .byte p1.toInt8.toInt32))), (kb, ba (own_blk p0 p2)), (r, ba ((own_cp ((xs.set 0 (nar .byte p0.toInt8.toInt32)).set 1 (nar .byte p1.toInt8.toInt32)) 2).set 0 (nar .byte ((nar .byte p0.toInt8.toInt32) ^^^ 1).toInt8.toInt32))), (r2, ba (own_cp ((xs.set 0 (nar .byte p0.toInt8.toInt32)).set 1 (nar .byte p1.toInt8.toInt32)) 2))] 5 772 373 #[.val (.int p0), .val (.int p1), .val (.int p2), .val (.int p3), .val (.ref o), .val (.int f5), .val (.int 0), .val (.int 2), .val (.ref kb), .val (.int 2), .val (.ref r), .val (.int 1), .val (.int (nar .byte p0.toInt8.toInt32)), .unset] [(.ref r2)]
          refine go_astore (pc' := 375) (Ls' := #[.val (.int p0), .val (.int p1), .val (.int p2), .val (.int p3), .val (.ref o), .val (.int f5), .val (.int 0), .val (.int 2), .val (.ref kb), .val (.int 2), .val (.ref r), .val (.int 1), .val (.int (nar .byte p0.toInt8.toInt32)), .val (.ref r2)]) K at_373 rfl rfl rfl ?_
          refine go_iload (pc' := 377) K at_375 rfl rfl ?_
          refine go_if_eq_f (pc' := 380) K at_377 (by decide) rfl ?_
          refine go_aload (pc' := 382) K at_380 rfl rfl rfl ?_
          refine go_alen (pc' := 383) (i := 4) (z := 2) K rfl at_382 (by rw [List.length_map, own_cp_len]; rfl) rfl ?_
          refine go_iload (pc' := 385) K at_383 rfl rfl ?_
          refine go_ic_ne_f (pc' := 388) K at_385 (by decide) rfl ?_
          refine go_aload (pc' := 390) K at_388 rfl rfl rfl ?_
          refine go_iconst (pc' := 391) (v := 0) K at_390 rfl rfl ?_
          refine go_baload (pc' := 392) (i := 4) (m := 0) (x := (nar .byte p0.toInt8.toInt32)) K rfl at_391 (by decide) (by rw [own_cp_get (by decide) (by rw [hx2]; decide)]; simp [List.getElem?_set, hx]) rfl ?_
          refine go_iload (pc' := 394) K at_392 rfl rfl ?_
          refine go_ic_ne_f (pc' := 397) K at_394 rfl rfl ?_
          refine go_iconst (pc' := 398) (v := 1) K at_397 rfl rfl ?_
          refine go_goto (pc' := 402) K at_398 (by decide) (by decide) ?_
          refine go_istore (pc' := 404) (Ls' := #[.val (.int p0), .val (.int p1), .val (.int p2), .val (.int p3), .val (.ref o), .val (.int f5), .val (.int 0), .val (.int 2), .val (.ref kb), .val (.int 2), .val (.ref r), .val (.int 1), .val (.int (nar .byte p0.toInt8.toInt32)), .val (.ref r2)]) K at_402 rfl rfl ?_
          refine go_goto (pc' := 432) K at_404 (by decide) (by decide) ?_
          refine go_iload (pc' := 434) K at_432 rfl rfl ?_
          exact go_zret K at_434 (by decide) (by decide) (Or.inr rfl) (by subst hQ; rfl)
        ·
          refine go_iload (pc' := 102) K at_100 rfl rfl ?_
          refine go_iconst (pc' := 103) (v := 1) K at_102 rfl rfl ?_
          refine go_ic_lt_f (pc' := 106) K at_103 (by decide) rfl ?_
          refine go_aload (pc' := 108) K at_106 rfl rfl rfl ?_
          refine go_iloadN (pc' := 109) K at_108 rfl rfl ?_
          refine go_virtual (pc' := 112) (Wd := 0) (i := 0) (y' := ⟨"com/example/hazusu/hazusu/StateBytes$Writer", "writeByte", "(I)V"⟩) (b := o) (argsL := [(.int p0)]) (rest := []) K (hw _ (List.mem_of_getElem? (i := 12) rfl)) (hw _ (List.mem_of_getElem? (i := 13) rfl)) (hw _ (List.mem_of_getElem? (i := 15) rfl)) (hw _ (List.mem_of_getElem? (i := 14) rfl)) (hw _ (List.mem_of_getElem? (i := 2) rfl)) (hw _ (List.mem_of_getElem? (i := 16) rfl)) rfl at_109 (ct_wb l Z h0 a0 hw [(u, ba xs), (kb, ba (own_blk p0 p2))] 0 o u 0 xs 0 p0 rfl hx rfl (by decide)) (lenOf pd__I_V rfl) rfl rfl (by decide) rfl (by decide) (by decide) (by decide) (by decide) rfl ?_
          rintro _ ds' ⟨rfl, hds⟩
          rw [hds]
          have hx1 : (xs.set 0 (nar .byte p0.toInt8.toInt32)).length = 128 := by rw [List.length_set]; exact hx
          have hf1 := own_set_fit hfit 0 p0.toInt8.toInt32
          show Go W Q [(o, .inr ("com/example/hazusu/hazusu/StateBytes$Writer", [(("com/example/hazusu/hazusu/StateBytes$Writer", "bytes", "[B"), .ref u), (("com/example/hazusu/hazusu/StateBytes$Writer", "length", "I"), .int 1)])), (u, ba (xs.set 0 (nar .byte p0.toInt8.toInt32))), (kb, ba (own_blk p0 p2))] 3 260 112 #[.val (.int p0), .val (.int p1), .val (.int p2), .val (.int p3), .val (.ref o), .val (.int f5), .val (.int 1), .val (.int 2), .val (.ref kb), .unset, .unset, .unset, .unset, .unset] []
          refine go_iload (pc' := 114) K at_112 rfl rfl ?_
          refine go_iconst (pc' := 115) (v := 2) K at_114 rfl rfl ?_
          refine go_ic_lt_f (pc' := 118) K at_115 (by decide) rfl ?_
          refine go_aload (pc' := 120) K at_118 rfl rfl rfl ?_
          refine go_iloadN (pc' := 121) K at_120 rfl rfl ?_
          refine go_virtual (pc' := 124) (Wd := 0) (i := 0) (y' := ⟨"com/example/hazusu/hazusu/StateBytes$Writer", "writeByte", "(I)V"⟩) (b := o) (argsL := [(.int p1)]) (rest := []) K (hw _ (List.mem_of_getElem? (i := 12) rfl)) (hw _ (List.mem_of_getElem? (i := 13) rfl)) (hw _ (List.mem_of_getElem? (i := 15) rfl)) (hw _ (List.mem_of_getElem? (i := 14) rfl)) (hw _ (List.mem_of_getElem? (i := 2) rfl)) (hw _ (List.mem_of_getElem? (i := 16) rfl)) rfl at_121 (ct_wb l Z h0 a0 hw [(u, ba (xs.set 0 (nar .byte p0.toInt8.toInt32))), (kb, ba (own_blk p0 p2))] 0 o u 1 (xs.set 0 (nar .byte p0.toInt8.toInt32)) 1 p1 rfl hx1 rfl (by decide)) (lenOf pd__I_V rfl) rfl rfl (by decide) rfl (by decide) (by decide) (by decide) (by decide) rfl ?_
          rintro _ ds' ⟨rfl, hds⟩
          rw [hds]
          have hx2 : ((xs.set 0 (nar .byte p0.toInt8.toInt32)).set 1 (nar .byte p1.toInt8.toInt32)).length = 128 := by rw [List.length_set]; exact hx1
          have hf2 := own_set_fit hf1 1 p1.toInt8.toInt32
          show Go W Q [(o, .inr ("com/example/hazusu/hazusu/StateBytes$Writer", [(("com/example/hazusu/hazusu/StateBytes$Writer", "bytes", "[B"), .ref u), (("com/example/hazusu/hazusu/StateBytes$Writer", "length", "I"), .int 2)])), (u, ba ((xs.set 0 (nar .byte p0.toInt8.toInt32)).set 1 (nar .byte p1.toInt8.toInt32))), (kb, ba (own_blk p0 p2))] 3 260 124 #[.val (.int p0), .val (.int p1), .val (.int p2), .val (.int p3), .val (.ref o), .val (.int f5), .val (.int 1), .val (.int 2), .val (.ref kb), .unset, .unset, .unset, .unset, .unset] []
          refine go_iload (pc' := 126) K at_124 rfl rfl ?_
          refine go_iconst (pc' := 127) (v := 3) K at_126 rfl rfl ?_
          refine go_ic_lt_t (pc' := 136) K at_127 (by decide) (by decide) (by decide) ?_
          refine go_iload (pc' := 138) K at_136 rfl rfl ?_
          refine go_if_eq_f (pc' := 141) K at_138 (by decide) rfl ?_
          refine go_aload (pc' := 143) K at_141 rfl rfl rfl ?_
          refine go_aload (pc' := 145) K at_143 rfl rfl rfl ?_
          refine go_virtual (pc' := 148) (Wd := 0) (i := 0) (y' := ⟨"com/example/hazusu/hazusu/StateBytes$Writer", "writeBytes", "([B)V"⟩) (b := o) (argsL := [(.ref kb)]) (rest := []) K (hw _ (List.mem_of_getElem? (i := 40) rfl)) (hw _ (List.mem_of_getElem? (i := 41) rfl)) (hw _ (List.mem_of_getElem? (i := 43) rfl)) (hw _ (List.mem_of_getElem? (i := 42) rfl)) (hw _ (List.mem_of_getElem? (i := 2) rfl)) (hw _ (List.mem_of_getElem? (i := 44) rfl)) rfl at_145 (ct_wbs l Z h0 a0 hw [(u, ba ((xs.set 0 (nar .byte p0.toInt8.toInt32)).set 1 (nar .byte p1.toInt8.toInt32))), (kb, ba (own_blk p0 p2))] 0 1 o u kb 2 ((xs.set 0 (nar .byte p0.toInt8.toInt32)).set 1 (nar .byte p1.toInt8.toInt32)) (own_blk p0 p2) 2 rfl rfl hx2 (own_blk_len p0 p2) hf2 (own_blk_fit p0 p2) rfl (by decide)) (lenOf pd___B_V rfl) rfl rfl (by decide) rfl (by decide) (by decide) (by decide) (by decide) rfl ?_
          rintro _ ds' ⟨u2, rfl, hds⟩
          rw [hds]
          have hwl := own_w_len (xs := ((xs.set 0 (nar .byte p0.toInt8.toInt32)).set 1 (nar .byte p1.toInt8.toInt32))) (j := 2) (own_blk_len p0 p2) (by decide)
          have hwf := own_w_fit (j := 2) hf2 (own_blk_fit p0 p2)
          show Go W Q [(o, .inr ("com/example/hazusu/hazusu/StateBytes$Writer", [(("com/example/hazusu/hazusu/StateBytes$Writer", "bytes", "[B"), .ref u2), (("com/example/hazusu/hazusu/StateBytes$Writer", "length", "I"), .int 132)])), (u, ba ((xs.set 0 (nar .byte p0.toInt8.toInt32)).set 1 (nar .byte p1.toInt8.toInt32))), (kb, ba (own_blk p0 p2)), (u2, ba (own_w ((xs.set 0 (nar .byte p0.toInt8.toInt32)).set 1 (nar .byte p1.toInt8.toInt32)) (own_blk p0 p2) 2))] 4 516 148 #[.val (.int p0), .val (.int p1), .val (.int p2), .val (.int p3), .val (.ref o), .val (.int f5), .val (.int 1), .val (.int 2), .val (.ref kb), .unset, .unset, .unset, .unset, .unset] []
          refine go_iload (pc' := 150) K at_148 rfl rfl ?_
          refine go_iload (pc' := 152) K at_150 rfl rfl ?_
          refine go_if_eq_f (pc' := 155) K at_152 (by decide) rfl ?_
          refine go_sipush (pc' := 158) (v := 130) K at_155 (by decide) rfl ?_
          refine go_goto (pc' := 162) K at_158 (by decide) (by decide) ?_
          refine go_iadd (pc' := 163) K at_162 rfl ?_
          rw [show ((2 + 130) : Int32) = 132 from by decide]
          refine go_istore (pc' := 165) (Ls' := #[.val (.int p0), .val (.int p1), .val (.int p2), .val (.int p3), .val (.ref o), .val (.int f5), .val (.int 1), .val (.int 2), .val (.ref kb), .val (.int 132), .unset, .unset, .unset, .unset]) K at_163 rfl rfl ?_
          refine go_aload (pc' := 167) K at_165 rfl rfl rfl ?_
          refine go_virtual (pc' := 170) (Wd := 0) (i := 0) (y' := ⟨"com/example/hazusu/hazusu/StateBytes$Writer", "toByteArray", "()[B"⟩) (b := o) (argsL := []) (rest := []) K (hw _ (List.mem_of_getElem? (i := 23) rfl)) (hw _ (List.mem_of_getElem? (i := 24) rfl)) (hw _ (List.mem_of_getElem? (i := 26) rfl)) (hw _ (List.mem_of_getElem? (i := 25) rfl)) (hw _ (List.mem_of_getElem? (i := 2) rfl)) (hw _ (List.mem_of_getElem? (i := 27) rfl)) rfl at_167 (ct_tba l Z h0 a0 hw [(u, ba ((xs.set 0 (nar .byte p0.toInt8.toInt32)).set 1 (nar .byte p1.toInt8.toInt32))), (kb, ba (own_blk p0 p2)), (u2, ba (own_w ((xs.set 0 (nar .byte p0.toInt8.toInt32)).set 1 (nar .byte p1.toInt8.toInt32)) (own_blk p0 p2) 2))] 2 o u2 132 (own_w ((xs.set 0 (nar .byte p0.toInt8.toInt32)).set 1 (nar .byte p1.toInt8.toInt32)) (own_blk p0 p2) 2) 132 rfl (Nat.le_of_eq hwl) (by rw [hwl]; decide) (by decide) hwf rfl) (lenOf pd____B rfl) rfl rfl (by decide) rfl (by decide) (by decide) (by decide) (by decide) rfl ?_
          rintro _ ds' ⟨r, rfl, hds⟩
          rw [hds]
          show Go W Q [(o, .inr ("com/example/hazusu/hazusu/StateBytes$Writer", [(("com/example/hazusu/hazusu/StateBytes$Writer", "bytes", "[B"), .ref u2), (("com/example/hazusu/hazusu/StateBytes$Writer", "length", "I"), .int 132)])), (u, ba ((xs.set 0 (nar .byte p0.toInt8.toInt32)).set 1 (nar .byte p1.toInt8.toInt32))), (kb, ba (own_blk p0 p2)), (u2, ba (own_w ((xs.set 0 (nar .byte p0.toInt8.toInt32)).set 1 (nar .byte p1.toInt8.toInt32)) (own_blk p0 p2) 2)), (r, ba (own_cp (own_w ((xs.set 0 (nar .byte p0.toInt8.toInt32)).set 1 (nar .byte p1.toInt8.toInt32)) (own_blk p0 p2) 2) 132))] 5 772 170 #[.val (.int p0), .val (.int p1), .val (.int p2), .val (.int p3), .val (.ref o), .val (.int f5), .val (.int 1), .val (.int 2), .val (.ref kb), .val (.int 132), .unset, .unset, .unset, .unset] [(.ref r)]
          refine go_astore (pc' := 172) (Ls' := #[.val (.int p0), .val (.int p1), .val (.int p2), .val (.int p3), .val (.ref o), .val (.int f5), .val (.int 1), .val (.int 2), .val (.ref kb), .val (.int 132), .val (.ref r), .unset, .unset, .unset]) K at_170 rfl rfl rfl ?_
          refine go_aload (pc' := 174) K at_172 rfl rfl rfl ?_
          refine go_alen (pc' := 175) (i := 4) (z := 132) K rfl at_174 (by rw [List.length_map, own_cp_len]; rfl) rfl ?_
          refine go_iload (pc' := 177) K at_175 rfl rfl ?_
          refine go_ic_eq_t (pc' := 182) K at_177 (by decide) (by decide) (by decide) ?_
          refine go_iconst (pc' := 183) (v := 1) K at_182 rfl rfl ?_
          refine go_istore (pc' := 185) (Ls' := #[.val (.int p0), .val (.int p1), .val (.int p2), .val (.int p3), .val (.ref o), .val (.int f5), .val (.int 1), .val (.int 2), .val (.ref kb), .val (.int 132), .val (.ref r), .val (.int 1), .unset, .unset]) K at_183 rfl rfl ?_
          refine go_iload (pc' := 187) K at_185 rfl rfl ?_
          refine go_iconst (pc' := 188) (v := 1) K at_187 rfl rfl ?_
          refine go_ic_lt_f (pc' := 191) K at_188 (by decide) rfl ?_
          refine go_iload (pc' := 193) K at_191 rfl rfl ?_
          refine go_if_eq_f (pc' := 196) K at_193 (by decide) rfl ?_
          refine go_aload (pc' := 198) K at_196 rfl rfl rfl ?_
          refine go_iconst (pc' := 199) (v := 0) K at_198 rfl rfl ?_
          refine go_baload (pc' := 200) (i := 4) (m := 0) (x := (nar .byte p0.toInt8.toInt32)) K rfl at_199 (by decide) (by rw [own_cp_get (by decide) (by rw [hwl]; decide)]; rw [own_w_lo hx2 (by decide) (by decide)]; simp [List.getElem?_set, hx]) rfl ?_
          refine go_iloadN (pc' := 201) K at_200 rfl rfl ?_
          refine go_i2b (pc' := 202) K at_201 rfl ?_
          refine go_ic_ne_f (pc' := 205) K at_202 (own_nar p0) rfl ?_
          refine go_iconst (pc' := 206) (v := 1) K at_205 rfl rfl ?_
          refine go_goto (pc' := 210) K at_206 (by decide) (by decide) ?_
          refine go_istore (pc' := 212) (Ls' := #[.val (.int p0), .val (.int p1), .val (.int p2), .val (.int p3), .val (.ref o), .val (.int f5), .val (.int 1), .val (.int 2), .val (.ref kb), .val (.int 132), .val (.ref r), .val (.int 1), .unset, .unset]) K at_210 rfl rfl ?_
          refine go_iload (pc' := 214) K at_212 rfl rfl ?_
          refine go_iconst (pc' := 215) (v := 2) K at_214 rfl rfl ?_
          refine go_ic_lt_f (pc' := 218) K at_215 (by decide) rfl ?_
          refine go_iload (pc' := 220) K at_218 rfl rfl ?_
          refine go_if_eq_f (pc' := 223) K at_220 (by decide) rfl ?_
          refine go_aload (pc' := 225) K at_223 rfl rfl rfl ?_
          refine go_iconst (pc' := 226) (v := 1) K at_225 rfl rfl ?_
          refine go_baload (pc' := 227) (i := 4) (m := 1) (x := (nar .byte p1.toInt8.toInt32)) K rfl at_226 (by decide) (by rw [own_cp_get (by decide) (by rw [hwl]; decide)]; rw [own_w_lo hx2 (by decide) (by decide)]; simp [List.getElem?_set, hx]) rfl ?_
          refine go_iloadN (pc' := 228) K at_227 rfl rfl ?_
          refine go_i2b (pc' := 229) K at_228 rfl ?_
          refine go_ic_ne_f (pc' := 232) K at_229 (own_nar p1) rfl ?_
          refine go_iconst (pc' := 233) (v := 1) K at_232 rfl rfl ?_
          refine go_goto (pc' := 237) K at_233 (by decide) (by decide) ?_
          refine go_istore (pc' := 239) (Ls' := #[.val (.int p0), .val (.int p1), .val (.int p2), .val (.int p3), .val (.ref o), .val (.int f5), .val (.int 1), .val (.int 2), .val (.ref kb), .val (.int 132), .val (.ref r), .val (.int 1), .unset, .unset]) K at_237 rfl rfl ?_
          refine go_iload (pc' := 241) K at_239 rfl rfl ?_
          refine go_iconst (pc' := 242) (v := 3) K at_241 rfl rfl ?_
          refine go_ic_lt_t (pc' := 266) K at_242 (by decide) (by decide) (by decide) ?_
          refine go_iload (pc' := 268) K at_266 rfl rfl ?_
          refine go_if_eq_f (pc' := 271) K at_268 (by decide) rfl ?_
          refine go_iload (pc' := 273) K at_271 rfl rfl ?_
          refine go_if_eq_f (pc' := 276) K at_273 (by decide) rfl ?_
          refine go_aload (pc' := 278) K at_276 rfl rfl rfl ?_
          refine go_iload (pc' := 280) K at_278 rfl rfl ?_
          refine go_baload (pc' := 281) (i := 4) (m := 2) (x := (nar .byte p2.toInt8.toInt32)) K rfl at_280 (by decide) (by rw [own_cp_get (by decide) (by rw [hwl]; decide)]; exact (own_w_hi (j := 2) (t := 0) (own_blk_len p0 p2) (by decide) (by decide)).trans (own_blk_get p0 p2).1) rfl ?_
          refine go_iloadN (pc' := 282) K at_281 rfl rfl ?_
          refine go_i2b (pc' := 283) K at_282 rfl ?_
          refine go_ic_ne_f (pc' := 286) K at_283 (own_nar p2) rfl ?_
          refine go_aload (pc' := 288) K at_286 rfl rfl rfl ?_
          refine go_iload (pc' := 290) K at_288 rfl rfl ?_
          refine go_iconst (pc' := 291) (v := 1) K at_290 rfl rfl ?_
          refine go_iadd (pc' := 292) K at_291 rfl ?_
          rw [show ((2 + 1) : Int32) = 3 from by decide]
          refine go_baload (pc' := 293) (i := 4) (m := 3) (x := 0) K rfl at_292 (by decide) (by rw [own_cp_get (by decide) (by rw [hwl]; decide)]; exact (own_w_hi (j := 2) (t := 1) (own_blk_len p0 p2) (by decide) (by decide)).trans (own_blk_get p0 p2).2.1) rfl ?_
          refine go_if_ne_f (pc' := 296) K at_293 (by decide) rfl ?_
          refine go_aload (pc' := 298) K at_296 rfl rfl rfl ?_
          refine go_iload (pc' := 300) K at_298 rfl rfl ?_
          refine go_bipush (pc' := 302) (v := 64) K at_300 (by decide) rfl ?_
          refine go_iadd (pc' := 303) K at_302 rfl ?_
          rw [show ((2 + 64) : Int32) = 66 from by decide]
          refine go_baload (pc' := 304) (i := 4) (m := 66) (x := (nar .byte (XT.ushr p0 16).toInt8.toInt32)) K rfl at_303 (by decide) (by rw [own_cp_get (by decide) (by rw [hwl]; decide)]; exact (own_w_hi (j := 2) (t := 64) (own_blk_len p0 p2) (by decide) (by decide)).trans (own_blk_get p0 p2).2.2.1) rfl ?_
          refine go_iloadN (pc' := 305) K at_304 rfl rfl ?_
          refine go_bipush (pc' := 307) (v := 16) K at_305 (by decide) rfl ?_
          refine go_iushr (pc' := 308) K at_307 rfl ?_
          refine go_i2b (pc' := 309) K at_308 rfl ?_
          refine go_ic_ne_f (pc' := 312) K at_309 (own_nar _) rfl ?_
          refine go_aload (pc' := 314) K at_312 rfl rfl rfl ?_
          refine go_iload (pc' := 316) K at_314 rfl rfl ?_
          refine go_sipush (pc' := 319) (v := 128) K at_316 (by decide) rfl ?_
          refine go_iadd (pc' := 320) K at_319 rfl ?_
          rw [show ((2 + 128) : Int32) = 130 from by decide]
          refine go_baload (pc' := 321) (i := 4) (m := 130) (x := 0) K rfl at_320 (by decide) (by rw [own_cp_get (by decide) (by rw [hwl]; decide)]; exact (own_w_hi (j := 2) (t := 128) (own_blk_len p0 p2) (by decide) (by decide)).trans (own_blk_get p0 p2).2.2.2.1) rfl ?_
          refine go_if_ne_f (pc' := 324) K at_321 (by decide) rfl ?_
          refine go_aload (pc' := 326) K at_324 rfl rfl rfl ?_
          refine go_iload (pc' := 328) K at_326 rfl rfl ?_
          refine go_sipush (pc' := 331) (v := 129) K at_328 (by decide) rfl ?_
          refine go_iadd (pc' := 332) K at_331 rfl ?_
          rw [show ((2 + 129) : Int32) = 131 from by decide]
          refine go_baload (pc' := 333) (i := 4) (m := 131) (x := (nar .byte (XT.ushr p2 8).toInt8.toInt32)) K rfl at_332 (by decide) (by rw [own_cp_get (by decide) (by rw [hwl]; decide)]; exact (own_w_hi (j := 2) (t := 129) (own_blk_len p0 p2) (by decide) (by decide)).trans (own_blk_get p0 p2).2.2.2.2) rfl ?_
          refine go_iloadN (pc' := 334) K at_333 rfl rfl ?_
          refine go_bipush (pc' := 336) (v := 8) K at_334 (by decide) rfl ?_
          refine go_iushr (pc' := 337) K at_336 rfl ?_
          refine go_i2b (pc' := 338) K at_337 rfl ?_
          refine go_ic_ne_f (pc' := 341) K at_338 (own_nar _) rfl ?_
          refine go_iconst (pc' := 342) (v := 1) K at_341 rfl rfl ?_
          refine go_goto (pc' := 346) K at_342 (by decide) (by decide) ?_
          refine go_istore (pc' := 348) (Ls' := #[.val (.int p0), .val (.int p1), .val (.int p2), .val (.int p3), .val (.ref o), .val (.int f5), .val (.int 1), .val (.int 2), .val (.ref kb), .val (.int 132), .val (.ref r), .val (.int 1), .unset, .unset]) K at_346 rfl rfl ?_
          refine go_iload (pc' := 350) K at_348 rfl rfl ?_
          refine go_if_le_f (pc' := 353) K at_350 (by decide) rfl ?_
          refine go_aload (pc' := 355) K at_353 rfl rfl rfl ?_
          refine go_iconst (pc' := 356) (v := 0) K at_355 rfl rfl ?_
          refine go_baload (pc' := 357) (i := 4) (m := 0) (x := (nar .byte p0.toInt8.toInt32)) K rfl at_356 (by decide) (by rw [own_cp_get (by decide) (by rw [hwl]; decide)]; rw [own_w_lo hx2 (by decide) (by decide)]; simp [List.getElem?_set, hx]) rfl ?_
          refine go_istore (pc' := 359) (Ls' := #[.val (.int p0), .val (.int p1), .val (.int p2), .val (.int p3), .val (.ref o), .val (.int f5), .val (.int 1), .val (.int 2), .val (.ref kb), .val (.int 132), .val (.ref r), .val (.int 1), .val (.int (nar .byte p0.toInt8.toInt32)), .unset]) K at_357 rfl rfl ?_
          refine go_aload (pc' := 361) K at_359 rfl rfl rfl ?_
          refine go_iconst (pc' := 362) (v := 0) K at_361 rfl rfl ?_
          refine go_iload (pc' := 364) K at_362 rfl rfl ?_
          refine go_iconst (pc' := 365) (v := 1) K at_364 rfl rfl ?_
          refine go_ixor (pc' := 366) K at_365 rfl ?_
          refine go_i2b (pc' := 367) K at_366 rfl ?_
          refine go_bastore (pc' := 368) (i := 4) (m := 0) (ds' := [(o, .inr ("com/example/hazusu/hazusu/StateBytes$Writer", [(("com/example/hazusu/hazusu/StateBytes$Writer", "bytes", "[B"), .ref u2), (("com/example/hazusu/hazusu/StateBytes$Writer", "length", "I"), .int 132)])), (u, ba ((xs.set 0 (nar .byte p0.toInt8.toInt32)).set 1 (nar .byte p1.toInt8.toInt32))), (kb, ba (own_blk p0 p2)), (u2, ba (own_w ((xs.set 0 (nar .byte p0.toInt8.toInt32)).set 1 (nar .byte p1.toInt8.toInt32)) (own_blk p0 p2) 2)), (r, ba ((own_cp (own_w ((xs.set 0 (nar .byte p0.toInt8.toInt32)).set 1 (nar .byte p1.toInt8.toInt32)) (own_blk p0 p2) 2) 132).set 0 (nar .byte ((nar .byte p0.toInt8.toInt32) ^^^ 1).toInt8.toInt32)))]) K rfl at_367 (by decide) (by rw [own_cp_len]; decide) rfl rfl ?_
          refine go_aload (pc' := 370) K at_368 rfl rfl rfl ?_
          refine go_virtual (pc' := 373) (Wd := 0) (i := 0) (y' := ⟨"com/example/hazusu/hazusu/StateBytes$Writer", "toByteArray", "()[B"⟩) (b := o) (argsL := []) (rest := []) K (hw _ (List.mem_of_getElem? (i := 23) rfl)) (hw _ (List.mem_of_getElem? (i := 24) rfl)) (hw _ (List.mem_of_getElem? (i := 26) rfl)) (hw _ (List.mem_of_getElem? (i := 25) rfl)) (hw _ (List.mem_of_getElem? (i := 2) rfl)) (hw _ (List.mem_of_getElem? (i := 27) rfl)) rfl at_370 (ct_tba l Z h0 a0 hw [(u, ba ((xs.set 0 (nar .byte p0.toInt8.toInt32)).set 1 (nar .byte p1.toInt8.toInt32))), (kb, ba (own_blk p0 p2)), (u2, ba (own_w ((xs.set 0 (nar .byte p0.toInt8.toInt32)).set 1 (nar .byte p1.toInt8.toInt32)) (own_blk p0 p2) 2)), (r, ba ((own_cp (own_w ((xs.set 0 (nar .byte p0.toInt8.toInt32)).set 1 (nar .byte p1.toInt8.toInt32)) (own_blk p0 p2) 2) 132).set 0 (nar .byte ((nar .byte p0.toInt8.toInt32) ^^^ 1).toInt8.toInt32)))] 2 o u2 132 (own_w ((xs.set 0 (nar .byte p0.toInt8.toInt32)).set 1 (nar .byte p1.toInt8.toInt32)) (own_blk p0 p2) 2) 132 rfl (Nat.le_of_eq hwl) (by rw [hwl]; decide) (by decide) hwf rfl) (lenOf pd____B rfl) rfl rfl (by decide) rfl (by decide) (by decide) (by decide) (by decide) rfl ?_
          rintro _ ds' ⟨r2, rfl, hds⟩
          rw [hds]
          show Go W Q [(o, .inr ("com/example/hazusu/hazusu/StateBytes$Writer", [(("com/example/hazusu/hazusu/StateBytes$Writer", "bytes", "[B"), .ref u2), (("com/example/hazusu/hazusu/StateBytes$Writer", "length", "I"), .int 132)])), (u, ba ((xs.set 0 (nar .byte p0.toInt8.toInt32)).set 1 (nar .byte p1.toInt8.toInt32))), (kb, ba (own_blk p0 p2)), (u2, ba (own_w ((xs.set 0 (nar .byte p0.toInt8.toInt32)).set 1 (nar .byte p1.toInt8.toInt32)) (own_blk p0 p2) 2)), (r, ba ((own_cp (own_w ((xs.set 0 (nar .byte p0.toInt8.toInt32)).set 1 (nar .byte p1.toInt8.toInt32)) (own_blk p0 p2) 2) 132).set 0 (nar .byte ((nar .byte p0.toInt8.toInt32) ^^^ 1).toInt8.toInt32))), (r2, ba (own_cp (own_w ((xs.set 0 (nar .byte p0.toInt8.toInt32)).set 1 (nar .byte p1.toInt8.toInt32)) (own_blk p0 p2) 2) 132))] 6 1028 373 #[.val (.int p0), .val (.int p1), .val (.int p2), .val (.int p3), .val (.ref o), .val (.int f5), .val (.int 1), .val (.int 2), .val (.ref kb), .val (.int 132), .val (.ref r), .val (.int 1), .val (.int (nar .byte p0.toInt8.toInt32)), .unset] [(.ref r2)]
          refine go_astore (pc' := 375) (Ls' := #[.val (.int p0), .val (.int p1), .val (.int p2), .val (.int p3), .val (.ref o), .val (.int f5), .val (.int 1), .val (.int 2), .val (.ref kb), .val (.int 132), .val (.ref r), .val (.int 1), .val (.int (nar .byte p0.toInt8.toInt32)), .val (.ref r2)]) K at_373 rfl rfl rfl ?_
          refine go_iload (pc' := 377) K at_375 rfl rfl ?_
          refine go_if_eq_f (pc' := 380) K at_377 (by decide) rfl ?_
          refine go_aload (pc' := 382) K at_380 rfl rfl rfl ?_
          refine go_alen (pc' := 383) (i := 5) (z := 132) K rfl at_382 (by rw [List.length_map, own_cp_len]; rfl) rfl ?_
          refine go_iload (pc' := 385) K at_383 rfl rfl ?_
          refine go_ic_ne_f (pc' := 388) K at_385 (by decide) rfl ?_
          refine go_aload (pc' := 390) K at_388 rfl rfl rfl ?_
          refine go_iconst (pc' := 391) (v := 0) K at_390 rfl rfl ?_
          refine go_baload (pc' := 392) (i := 5) (m := 0) (x := (nar .byte p0.toInt8.toInt32)) K rfl at_391 (by decide) (by rw [own_cp_get (by decide) (by rw [hwl]; decide)]; rw [own_w_lo hx2 (by decide) (by decide)]; simp [List.getElem?_set, hx]) rfl ?_
          refine go_iload (pc' := 394) K at_392 rfl rfl ?_
          refine go_ic_ne_f (pc' := 397) K at_394 rfl rfl ?_
          refine go_iconst (pc' := 398) (v := 1) K at_397 rfl rfl ?_
          refine go_goto (pc' := 402) K at_398 (by decide) (by decide) ?_
          refine go_istore (pc' := 404) (Ls' := #[.val (.int p0), .val (.int p1), .val (.int p2), .val (.int p3), .val (.ref o), .val (.int f5), .val (.int 1), .val (.int 2), .val (.ref kb), .val (.int 132), .val (.ref r), .val (.int 1), .val (.int (nar .byte p0.toInt8.toInt32)), .val (.ref r2)]) K at_402 rfl rfl ?_
          refine go_goto (pc' := 432) K at_404 (by decide) (by decide) ?_
          refine go_iload (pc' := 434) K at_432 rfl rfl ?_
          exact go_zret K at_434 (by decide) (by decide) (Or.inr rfl) (by subst hQ; rfl)
        ·
          refine go_iload (pc' := 102) K at_100 rfl rfl ?_
          refine go_iconst (pc' := 103) (v := 1) K at_102 rfl rfl ?_
          refine go_ic_lt_f (pc' := 106) K at_103 (by decide) rfl ?_
          refine go_aload (pc' := 108) K at_106 rfl rfl rfl ?_
          refine go_iloadN (pc' := 109) K at_108 rfl rfl ?_
          refine go_virtual (pc' := 112) (Wd := 0) (i := 0) (y' := ⟨"com/example/hazusu/hazusu/StateBytes$Writer", "writeByte", "(I)V"⟩) (b := o) (argsL := [(.int p0)]) (rest := []) K (hw _ (List.mem_of_getElem? (i := 12) rfl)) (hw _ (List.mem_of_getElem? (i := 13) rfl)) (hw _ (List.mem_of_getElem? (i := 15) rfl)) (hw _ (List.mem_of_getElem? (i := 14) rfl)) (hw _ (List.mem_of_getElem? (i := 2) rfl)) (hw _ (List.mem_of_getElem? (i := 16) rfl)) rfl at_109 (ct_wb l Z h0 a0 hw [(u, ba xs), (kb, ba (own_blk p0 p2))] 0 o u 0 xs 0 p0 rfl hx rfl (by decide)) (lenOf pd__I_V rfl) rfl rfl (by decide) rfl (by decide) (by decide) (by decide) (by decide) rfl ?_
          rintro _ ds' ⟨rfl, hds⟩
          rw [hds]
          have hx1 : (xs.set 0 (nar .byte p0.toInt8.toInt32)).length = 128 := by rw [List.length_set]; exact hx
          have hf1 := own_set_fit hfit 0 p0.toInt8.toInt32
          show Go W Q [(o, .inr ("com/example/hazusu/hazusu/StateBytes$Writer", [(("com/example/hazusu/hazusu/StateBytes$Writer", "bytes", "[B"), .ref u), (("com/example/hazusu/hazusu/StateBytes$Writer", "length", "I"), .int 1)])), (u, ba (xs.set 0 (nar .byte p0.toInt8.toInt32))), (kb, ba (own_blk p0 p2))] 3 260 112 #[.val (.int p0), .val (.int p1), .val (.int p2), .val (.int p3), .val (.ref o), .val (.int f5), .val (.int 0), .val (.int 3), .val (.ref kb), .unset, .unset, .unset, .unset, .unset] []
          refine go_iload (pc' := 114) K at_112 rfl rfl ?_
          refine go_iconst (pc' := 115) (v := 2) K at_114 rfl rfl ?_
          refine go_ic_lt_f (pc' := 118) K at_115 (by decide) rfl ?_
          refine go_aload (pc' := 120) K at_118 rfl rfl rfl ?_
          refine go_iloadN (pc' := 121) K at_120 rfl rfl ?_
          refine go_virtual (pc' := 124) (Wd := 0) (i := 0) (y' := ⟨"com/example/hazusu/hazusu/StateBytes$Writer", "writeByte", "(I)V"⟩) (b := o) (argsL := [(.int p1)]) (rest := []) K (hw _ (List.mem_of_getElem? (i := 12) rfl)) (hw _ (List.mem_of_getElem? (i := 13) rfl)) (hw _ (List.mem_of_getElem? (i := 15) rfl)) (hw _ (List.mem_of_getElem? (i := 14) rfl)) (hw _ (List.mem_of_getElem? (i := 2) rfl)) (hw _ (List.mem_of_getElem? (i := 16) rfl)) rfl at_121 (ct_wb l Z h0 a0 hw [(u, ba (xs.set 0 (nar .byte p0.toInt8.toInt32))), (kb, ba (own_blk p0 p2))] 0 o u 1 (xs.set 0 (nar .byte p0.toInt8.toInt32)) 1 p1 rfl hx1 rfl (by decide)) (lenOf pd__I_V rfl) rfl rfl (by decide) rfl (by decide) (by decide) (by decide) (by decide) rfl ?_
          rintro _ ds' ⟨rfl, hds⟩
          rw [hds]
          have hx2 : ((xs.set 0 (nar .byte p0.toInt8.toInt32)).set 1 (nar .byte p1.toInt8.toInt32)).length = 128 := by rw [List.length_set]; exact hx1
          have hf2 := own_set_fit hf1 1 p1.toInt8.toInt32
          show Go W Q [(o, .inr ("com/example/hazusu/hazusu/StateBytes$Writer", [(("com/example/hazusu/hazusu/StateBytes$Writer", "bytes", "[B"), .ref u), (("com/example/hazusu/hazusu/StateBytes$Writer", "length", "I"), .int 2)])), (u, ba ((xs.set 0 (nar .byte p0.toInt8.toInt32)).set 1 (nar .byte p1.toInt8.toInt32))), (kb, ba (own_blk p0 p2))] 3 260 124 #[.val (.int p0), .val (.int p1), .val (.int p2), .val (.int p3), .val (.ref o), .val (.int f5), .val (.int 0), .val (.int 3), .val (.ref kb), .unset, .unset, .unset, .unset, .unset] []
          refine go_iload (pc' := 126) K at_124 rfl rfl ?_
          refine go_iconst (pc' := 127) (v := 3) K at_126 rfl rfl ?_
          refine go_ic_lt_f (pc' := 130) K at_127 (by decide) rfl ?_
          refine go_aload (pc' := 132) K at_130 rfl rfl rfl ?_
          refine go_iloadN (pc' := 133) K at_132 rfl rfl ?_
          refine go_virtual (pc' := 136) (Wd := 0) (i := 0) (y' := ⟨"com/example/hazusu/hazusu/StateBytes$Writer", "writeByte", "(I)V"⟩) (b := o) (argsL := [(.int p2)]) (rest := []) K (hw _ (List.mem_of_getElem? (i := 12) rfl)) (hw _ (List.mem_of_getElem? (i := 13) rfl)) (hw _ (List.mem_of_getElem? (i := 15) rfl)) (hw _ (List.mem_of_getElem? (i := 14) rfl)) (hw _ (List.mem_of_getElem? (i := 2) rfl)) (hw _ (List.mem_of_getElem? (i := 16) rfl)) rfl at_133 (ct_wb l Z h0 a0 hw [(u, ba ((xs.set 0 (nar .byte p0.toInt8.toInt32)).set 1 (nar .byte p1.toInt8.toInt32))), (kb, ba (own_blk p0 p2))] 0 o u 2 ((xs.set 0 (nar .byte p0.toInt8.toInt32)).set 1 (nar .byte p1.toInt8.toInt32)) 2 p2 rfl hx2 rfl (by decide)) (lenOf pd__I_V rfl) rfl rfl (by decide) rfl (by decide) (by decide) (by decide) (by decide) rfl ?_
          rintro _ ds' ⟨rfl, hds⟩
          rw [hds]
          have hx3 : (((xs.set 0 (nar .byte p0.toInt8.toInt32)).set 1 (nar .byte p1.toInt8.toInt32)).set 2 (nar .byte p2.toInt8.toInt32)).length = 128 := by rw [List.length_set]; exact hx2
          have hf3 := own_set_fit hf2 2 p2.toInt8.toInt32
          show Go W Q [(o, .inr ("com/example/hazusu/hazusu/StateBytes$Writer", [(("com/example/hazusu/hazusu/StateBytes$Writer", "bytes", "[B"), .ref u), (("com/example/hazusu/hazusu/StateBytes$Writer", "length", "I"), .int 3)])), (u, ba (((xs.set 0 (nar .byte p0.toInt8.toInt32)).set 1 (nar .byte p1.toInt8.toInt32)).set 2 (nar .byte p2.toInt8.toInt32))), (kb, ba (own_blk p0 p2))] 3 260 136 #[.val (.int p0), .val (.int p1), .val (.int p2), .val (.int p3), .val (.ref o), .val (.int f5), .val (.int 0), .val (.int 3), .val (.ref kb), .unset, .unset, .unset, .unset, .unset] []
          refine go_iload (pc' := 138) K at_136 rfl rfl ?_
          refine go_if_eq_t (pc' := 148) K at_138 (by decide) (by decide) (by decide) ?_
          refine go_iload (pc' := 150) K at_148 rfl rfl ?_
          refine go_iload (pc' := 152) K at_150 rfl rfl ?_
          refine go_if_eq_t (pc' := 161) K at_152 (by decide) (by decide) (by decide) ?_
          refine go_iconst (pc' := 162) (v := 0) K at_161 rfl rfl ?_
          refine go_iadd (pc' := 163) K at_162 rfl ?_
          rw [show ((3 + 0) : Int32) = 3 from by decide]
          refine go_istore (pc' := 165) (Ls' := #[.val (.int p0), .val (.int p1), .val (.int p2), .val (.int p3), .val (.ref o), .val (.int f5), .val (.int 0), .val (.int 3), .val (.ref kb), .val (.int 3), .unset, .unset, .unset, .unset]) K at_163 rfl rfl ?_
          refine go_aload (pc' := 167) K at_165 rfl rfl rfl ?_
          refine go_virtual (pc' := 170) (Wd := 0) (i := 0) (y' := ⟨"com/example/hazusu/hazusu/StateBytes$Writer", "toByteArray", "()[B"⟩) (b := o) (argsL := []) (rest := []) K (hw _ (List.mem_of_getElem? (i := 23) rfl)) (hw _ (List.mem_of_getElem? (i := 24) rfl)) (hw _ (List.mem_of_getElem? (i := 26) rfl)) (hw _ (List.mem_of_getElem? (i := 25) rfl)) (hw _ (List.mem_of_getElem? (i := 2) rfl)) (hw _ (List.mem_of_getElem? (i := 27) rfl)) rfl at_167 (ct_tba l Z h0 a0 hw [(u, ba (((xs.set 0 (nar .byte p0.toInt8.toInt32)).set 1 (nar .byte p1.toInt8.toInt32)).set 2 (nar .byte p2.toInt8.toInt32))), (kb, ba (own_blk p0 p2))] 0 o u 3 (((xs.set 0 (nar .byte p0.toInt8.toInt32)).set 1 (nar .byte p1.toInt8.toInt32)).set 2 (nar .byte p2.toInt8.toInt32)) 3 rfl (by rw [hx3]; decide) (by rw [hx3]; decide) (by decide) hf3 rfl) (lenOf pd____B rfl) rfl rfl (by decide) rfl (by decide) (by decide) (by decide) (by decide) rfl ?_
          rintro _ ds' ⟨r, rfl, hds⟩
          rw [hds]
          show Go W Q [(o, .inr ("com/example/hazusu/hazusu/StateBytes$Writer", [(("com/example/hazusu/hazusu/StateBytes$Writer", "bytes", "[B"), .ref u), (("com/example/hazusu/hazusu/StateBytes$Writer", "length", "I"), .int 3)])), (u, ba (((xs.set 0 (nar .byte p0.toInt8.toInt32)).set 1 (nar .byte p1.toInt8.toInt32)).set 2 (nar .byte p2.toInt8.toInt32))), (kb, ba (own_blk p0 p2)), (r, ba (own_cp (((xs.set 0 (nar .byte p0.toInt8.toInt32)).set 1 (nar .byte p1.toInt8.toInt32)).set 2 (nar .byte p2.toInt8.toInt32)) 3))] 4 516 170 #[.val (.int p0), .val (.int p1), .val (.int p2), .val (.int p3), .val (.ref o), .val (.int f5), .val (.int 0), .val (.int 3), .val (.ref kb), .val (.int 3), .unset, .unset, .unset, .unset] [(.ref r)]
          refine go_astore (pc' := 172) (Ls' := #[.val (.int p0), .val (.int p1), .val (.int p2), .val (.int p3), .val (.ref o), .val (.int f5), .val (.int 0), .val (.int 3), .val (.ref kb), .val (.int 3), .val (.ref r), .unset, .unset, .unset]) K at_170 rfl rfl rfl ?_
          refine go_aload (pc' := 174) K at_172 rfl rfl rfl ?_
          refine go_alen (pc' := 175) (i := 3) (z := 3) K rfl at_174 (by rw [List.length_map, own_cp_len]; rfl) rfl ?_
          refine go_iload (pc' := 177) K at_175 rfl rfl ?_
          refine go_ic_eq_t (pc' := 182) K at_177 (by decide) (by decide) (by decide) ?_
          refine go_iconst (pc' := 183) (v := 1) K at_182 rfl rfl ?_
          refine go_istore (pc' := 185) (Ls' := #[.val (.int p0), .val (.int p1), .val (.int p2), .val (.int p3), .val (.ref o), .val (.int f5), .val (.int 0), .val (.int 3), .val (.ref kb), .val (.int 3), .val (.ref r), .val (.int 1), .unset, .unset]) K at_183 rfl rfl ?_
          refine go_iload (pc' := 187) K at_185 rfl rfl ?_
          refine go_iconst (pc' := 188) (v := 1) K at_187 rfl rfl ?_
          refine go_ic_lt_f (pc' := 191) K at_188 (by decide) rfl ?_
          refine go_iload (pc' := 193) K at_191 rfl rfl ?_
          refine go_if_eq_f (pc' := 196) K at_193 (by decide) rfl ?_
          refine go_aload (pc' := 198) K at_196 rfl rfl rfl ?_
          refine go_iconst (pc' := 199) (v := 0) K at_198 rfl rfl ?_
          refine go_baload (pc' := 200) (i := 3) (m := 0) (x := (nar .byte p0.toInt8.toInt32)) K rfl at_199 (by decide) (by rw [own_cp_get (by decide) (by rw [hx3]; decide)]; simp [List.getElem?_set, hx]) rfl ?_
          refine go_iloadN (pc' := 201) K at_200 rfl rfl ?_
          refine go_i2b (pc' := 202) K at_201 rfl ?_
          refine go_ic_ne_f (pc' := 205) K at_202 (own_nar p0) rfl ?_
          refine go_iconst (pc' := 206) (v := 1) K at_205 rfl rfl ?_
          refine go_goto (pc' := 210) K at_206 (by decide) (by decide) ?_
          refine go_istore (pc' := 212) (Ls' := #[.val (.int p0), .val (.int p1), .val (.int p2), .val (.int p3), .val (.ref o), .val (.int f5), .val (.int 0), .val (.int 3), .val (.ref kb), .val (.int 3), .val (.ref r), .val (.int 1), .unset, .unset]) K at_210 rfl rfl ?_
          refine go_iload (pc' := 214) K at_212 rfl rfl ?_
          refine go_iconst (pc' := 215) (v := 2) K at_214 rfl rfl ?_
          refine go_ic_lt_f (pc' := 218) K at_215 (by decide) rfl ?_
          refine go_iload (pc' := 220) K at_218 rfl rfl ?_
          refine go_if_eq_f (pc' := 223) K at_220 (by decide) rfl ?_
          refine go_aload (pc' := 225) K at_223 rfl rfl rfl ?_
          refine go_iconst (pc' := 226) (v := 1) K at_225 rfl rfl ?_
          refine go_baload (pc' := 227) (i := 3) (m := 1) (x := (nar .byte p1.toInt8.toInt32)) K rfl at_226 (by decide) (by rw [own_cp_get (by decide) (by rw [hx3]; decide)]; simp [List.getElem?_set, hx]) rfl ?_
          refine go_iloadN (pc' := 228) K at_227 rfl rfl ?_
          refine go_i2b (pc' := 229) K at_228 rfl ?_
          refine go_ic_ne_f (pc' := 232) K at_229 (own_nar p1) rfl ?_
          refine go_iconst (pc' := 233) (v := 1) K at_232 rfl rfl ?_
          refine go_goto (pc' := 237) K at_233 (by decide) (by decide) ?_
          refine go_istore (pc' := 239) (Ls' := #[.val (.int p0), .val (.int p1), .val (.int p2), .val (.int p3), .val (.ref o), .val (.int f5), .val (.int 0), .val (.int 3), .val (.ref kb), .val (.int 3), .val (.ref r), .val (.int 1), .unset, .unset]) K at_237 rfl rfl ?_
          refine go_iload (pc' := 241) K at_239 rfl rfl ?_
          refine go_iconst (pc' := 242) (v := 3) K at_241 rfl rfl ?_
          refine go_ic_lt_f (pc' := 245) K at_242 (by decide) rfl ?_
          refine go_iload (pc' := 247) K at_245 rfl rfl ?_
          refine go_if_eq_f (pc' := 250) K at_247 (by decide) rfl ?_
          refine go_aload (pc' := 252) K at_250 rfl rfl rfl ?_
          refine go_iconst (pc' := 253) (v := 2) K at_252 rfl rfl ?_
          refine go_baload (pc' := 254) (i := 3) (m := 2) (x := (nar .byte p2.toInt8.toInt32)) K rfl at_253 (by decide) (by rw [own_cp_get (by decide) (by rw [hx3]; decide)]; simp [List.getElem?_set, hx]) rfl ?_
          refine go_iloadN (pc' := 255) K at_254 rfl rfl ?_
          refine go_i2b (pc' := 256) K at_255 rfl ?_
          refine go_ic_ne_f (pc' := 259) K at_256 (own_nar p2) rfl ?_
          refine go_iconst (pc' := 260) (v := 1) K at_259 rfl rfl ?_
          refine go_goto (pc' := 264) K at_260 (by decide) (by decide) ?_
          refine go_istore (pc' := 266) (Ls' := #[.val (.int p0), .val (.int p1), .val (.int p2), .val (.int p3), .val (.ref o), .val (.int f5), .val (.int 0), .val (.int 3), .val (.ref kb), .val (.int 3), .val (.ref r), .val (.int 1), .unset, .unset]) K at_264 rfl rfl ?_
          refine go_iload (pc' := 268) K at_266 rfl rfl ?_
          refine go_if_eq_t (pc' := 348) K at_268 (by decide) (by decide) (by decide) ?_
          refine go_iload (pc' := 350) K at_348 rfl rfl ?_
          refine go_if_le_f (pc' := 353) K at_350 (by decide) rfl ?_
          refine go_aload (pc' := 355) K at_353 rfl rfl rfl ?_
          refine go_iconst (pc' := 356) (v := 0) K at_355 rfl rfl ?_
          refine go_baload (pc' := 357) (i := 3) (m := 0) (x := (nar .byte p0.toInt8.toInt32)) K rfl at_356 (by decide) (by rw [own_cp_get (by decide) (by rw [hx3]; decide)]; simp [List.getElem?_set, hx]) rfl ?_
          refine go_istore (pc' := 359) (Ls' := #[.val (.int p0), .val (.int p1), .val (.int p2), .val (.int p3), .val (.ref o), .val (.int f5), .val (.int 0), .val (.int 3), .val (.ref kb), .val (.int 3), .val (.ref r), .val (.int 1), .val (.int (nar .byte p0.toInt8.toInt32)), .unset]) K at_357 rfl rfl ?_
          refine go_aload (pc' := 361) K at_359 rfl rfl rfl ?_
          refine go_iconst (pc' := 362) (v := 0) K at_361 rfl rfl ?_
          refine go_iload (pc' := 364) K at_362 rfl rfl ?_
          refine go_iconst (pc' := 365) (v := 1) K at_364 rfl rfl ?_
          refine go_ixor (pc' := 366) K at_365 rfl ?_
          refine go_i2b (pc' := 367) K at_366 rfl ?_
          refine go_bastore (pc' := 368) (i := 3) (m := 0) (ds' := [(o, .inr ("com/example/hazusu/hazusu/StateBytes$Writer", [(("com/example/hazusu/hazusu/StateBytes$Writer", "bytes", "[B"), .ref u), (("com/example/hazusu/hazusu/StateBytes$Writer", "length", "I"), .int 3)])), (u, ba (((xs.set 0 (nar .byte p0.toInt8.toInt32)).set 1 (nar .byte p1.toInt8.toInt32)).set 2 (nar .byte p2.toInt8.toInt32))), (kb, ba (own_blk p0 p2)), (r, ba ((own_cp (((xs.set 0 (nar .byte p0.toInt8.toInt32)).set 1 (nar .byte p1.toInt8.toInt32)).set 2 (nar .byte p2.toInt8.toInt32)) 3).set 0 (nar .byte ((nar .byte p0.toInt8.toInt32) ^^^ 1).toInt8.toInt32)))]) K rfl at_367 (by decide) (by rw [own_cp_len]; decide) rfl rfl ?_
          refine go_aload (pc' := 370) K at_368 rfl rfl rfl ?_
          refine go_virtual (pc' := 373) (Wd := 0) (i := 0) (y' := ⟨"com/example/hazusu/hazusu/StateBytes$Writer", "toByteArray", "()[B"⟩) (b := o) (argsL := []) (rest := []) K (hw _ (List.mem_of_getElem? (i := 23) rfl)) (hw _ (List.mem_of_getElem? (i := 24) rfl)) (hw _ (List.mem_of_getElem? (i := 26) rfl)) (hw _ (List.mem_of_getElem? (i := 25) rfl)) (hw _ (List.mem_of_getElem? (i := 2) rfl)) (hw _ (List.mem_of_getElem? (i := 27) rfl)) rfl at_370 (ct_tba l Z h0 a0 hw [(u, ba (((xs.set 0 (nar .byte p0.toInt8.toInt32)).set 1 (nar .byte p1.toInt8.toInt32)).set 2 (nar .byte p2.toInt8.toInt32))), (kb, ba (own_blk p0 p2)), (r, ba ((own_cp (((xs.set 0 (nar .byte p0.toInt8.toInt32)).set 1 (nar .byte p1.toInt8.toInt32)).set 2 (nar .byte p2.toInt8.toInt32)) 3).set 0 (nar .byte ((nar .byte p0.toInt8.toInt32) ^^^ 1).toInt8.toInt32)))] 0 o u 3 (((xs.set 0 (nar .byte p0.toInt8.toInt32)).set 1 (nar .byte p1.toInt8.toInt32)).set 2 (nar .byte p2.toInt8.toInt32)) 3 rfl (by rw [hx3]; decide) (by rw [hx3]; decide) (by decide) hf3 rfl) (lenOf pd____B rfl) rfl rfl (by decide) rfl (by decide) (by decide) (by decide) (by decide) rfl ?_
          rintro _ ds' ⟨r2, rfl, hds⟩
          rw [hds]
          show Go W Q [(o, .inr ("com/example/hazusu/hazusu/StateBytes$Writer", [(("com/example/hazusu/hazusu/StateBytes$Writer", "bytes", "[B"), .ref u), (("com/example/hazusu/hazusu/StateBytes$Writer", "length", "I"), .int 3)])), (u, ba (((xs.set 0 (nar .byte p0.toInt8.toInt32)).set 1 (nar .byte p1.toInt8.toInt32)).set 2 (nar .byte p2.toInt8.toInt32))), (kb, ba (own_blk p0 p2)), (r, ba ((own_cp (((xs.set 0 (nar .byte p0.toInt8.toInt32)).set 1 (nar .byte p1.toInt8.toInt32)).set 2 (nar .byte p2.toInt8.toInt32)) 3).set 0 (nar .byte ((nar .byte p0.toInt8.toInt32) ^^^ 1).toInt8.toInt32))), (r2, ba (own_cp (((xs.set 0 (nar .byte p0.toInt8.toInt32)).set 1 (nar .byte p1.toInt8.toInt32)).set 2 (nar .byte p2.toInt8.toInt32)) 3))] 5 772 373 #[.val (.int p0), .val (.int p1), .val (.int p2), .val (.int p3), .val (.ref o), .val (.int f5), .val (.int 0), .val (.int 3), .val (.ref kb), .val (.int 3), .val (.ref r), .val (.int 1), .val (.int (nar .byte p0.toInt8.toInt32)), .unset] [(.ref r2)]
          refine go_astore (pc' := 375) (Ls' := #[.val (.int p0), .val (.int p1), .val (.int p2), .val (.int p3), .val (.ref o), .val (.int f5), .val (.int 0), .val (.int 3), .val (.ref kb), .val (.int 3), .val (.ref r), .val (.int 1), .val (.int (nar .byte p0.toInt8.toInt32)), .val (.ref r2)]) K at_373 rfl rfl rfl ?_
          refine go_iload (pc' := 377) K at_375 rfl rfl ?_
          refine go_if_eq_f (pc' := 380) K at_377 (by decide) rfl ?_
          refine go_aload (pc' := 382) K at_380 rfl rfl rfl ?_
          refine go_alen (pc' := 383) (i := 4) (z := 3) K rfl at_382 (by rw [List.length_map, own_cp_len]; rfl) rfl ?_
          refine go_iload (pc' := 385) K at_383 rfl rfl ?_
          refine go_ic_ne_f (pc' := 388) K at_385 (by decide) rfl ?_
          refine go_aload (pc' := 390) K at_388 rfl rfl rfl ?_
          refine go_iconst (pc' := 391) (v := 0) K at_390 rfl rfl ?_
          refine go_baload (pc' := 392) (i := 4) (m := 0) (x := (nar .byte p0.toInt8.toInt32)) K rfl at_391 (by decide) (by rw [own_cp_get (by decide) (by rw [hx3]; decide)]; simp [List.getElem?_set, hx]) rfl ?_
          refine go_iload (pc' := 394) K at_392 rfl rfl ?_
          refine go_ic_ne_f (pc' := 397) K at_394 rfl rfl ?_
          refine go_iconst (pc' := 398) (v := 1) K at_397 rfl rfl ?_
          refine go_goto (pc' := 402) K at_398 (by decide) (by decide) ?_
          refine go_istore (pc' := 404) (Ls' := #[.val (.int p0), .val (.int p1), .val (.int p2), .val (.int p3), .val (.ref o), .val (.int f5), .val (.int 0), .val (.int 3), .val (.ref kb), .val (.int 3), .val (.ref r), .val (.int 1), .val (.int (nar .byte p0.toInt8.toInt32)), .val (.ref r2)]) K at_402 rfl rfl ?_
          refine go_goto (pc' := 432) K at_404 (by decide) (by decide) ?_
          refine go_iload (pc' := 434) K at_432 rfl rfl ?_
          exact go_zret K at_434 (by decide) (by decide) (Or.inr rfl) (by subst hQ; rfl)
        ·
          refine go_iload (pc' := 102) K at_100 rfl rfl ?_
          refine go_iconst (pc' := 103) (v := 1) K at_102 rfl rfl ?_
          refine go_ic_lt_f (pc' := 106) K at_103 (by decide) rfl ?_
          refine go_aload (pc' := 108) K at_106 rfl rfl rfl ?_
          refine go_iloadN (pc' := 109) K at_108 rfl rfl ?_
          refine go_virtual (pc' := 112) (Wd := 0) (i := 0) (y' := ⟨"com/example/hazusu/hazusu/StateBytes$Writer", "writeByte", "(I)V"⟩) (b := o) (argsL := [(.int p0)]) (rest := []) K (hw _ (List.mem_of_getElem? (i := 12) rfl)) (hw _ (List.mem_of_getElem? (i := 13) rfl)) (hw _ (List.mem_of_getElem? (i := 15) rfl)) (hw _ (List.mem_of_getElem? (i := 14) rfl)) (hw _ (List.mem_of_getElem? (i := 2) rfl)) (hw _ (List.mem_of_getElem? (i := 16) rfl)) rfl at_109 (ct_wb l Z h0 a0 hw [(u, ba xs), (kb, ba (own_blk p0 p2))] 0 o u 0 xs 0 p0 rfl hx rfl (by decide)) (lenOf pd__I_V rfl) rfl rfl (by decide) rfl (by decide) (by decide) (by decide) (by decide) rfl ?_
          rintro _ ds' ⟨rfl, hds⟩
          rw [hds]
          have hx1 : (xs.set 0 (nar .byte p0.toInt8.toInt32)).length = 128 := by rw [List.length_set]; exact hx
          have hf1 := own_set_fit hfit 0 p0.toInt8.toInt32
          show Go W Q [(o, .inr ("com/example/hazusu/hazusu/StateBytes$Writer", [(("com/example/hazusu/hazusu/StateBytes$Writer", "bytes", "[B"), .ref u), (("com/example/hazusu/hazusu/StateBytes$Writer", "length", "I"), .int 1)])), (u, ba (xs.set 0 (nar .byte p0.toInt8.toInt32))), (kb, ba (own_blk p0 p2))] 3 260 112 #[.val (.int p0), .val (.int p1), .val (.int p2), .val (.int p3), .val (.ref o), .val (.int f5), .val (.int 1), .val (.int 3), .val (.ref kb), .unset, .unset, .unset, .unset, .unset] []
          refine go_iload (pc' := 114) K at_112 rfl rfl ?_
          refine go_iconst (pc' := 115) (v := 2) K at_114 rfl rfl ?_
          refine go_ic_lt_f (pc' := 118) K at_115 (by decide) rfl ?_
          refine go_aload (pc' := 120) K at_118 rfl rfl rfl ?_
          refine go_iloadN (pc' := 121) K at_120 rfl rfl ?_
          refine go_virtual (pc' := 124) (Wd := 0) (i := 0) (y' := ⟨"com/example/hazusu/hazusu/StateBytes$Writer", "writeByte", "(I)V"⟩) (b := o) (argsL := [(.int p1)]) (rest := []) K (hw _ (List.mem_of_getElem? (i := 12) rfl)) (hw _ (List.mem_of_getElem? (i := 13) rfl)) (hw _ (List.mem_of_getElem? (i := 15) rfl)) (hw _ (List.mem_of_getElem? (i := 14) rfl)) (hw _ (List.mem_of_getElem? (i := 2) rfl)) (hw _ (List.mem_of_getElem? (i := 16) rfl)) rfl at_121 (ct_wb l Z h0 a0 hw [(u, ba (xs.set 0 (nar .byte p0.toInt8.toInt32))), (kb, ba (own_blk p0 p2))] 0 o u 1 (xs.set 0 (nar .byte p0.toInt8.toInt32)) 1 p1 rfl hx1 rfl (by decide)) (lenOf pd__I_V rfl) rfl rfl (by decide) rfl (by decide) (by decide) (by decide) (by decide) rfl ?_
          rintro _ ds' ⟨rfl, hds⟩
          rw [hds]
          have hx2 : ((xs.set 0 (nar .byte p0.toInt8.toInt32)).set 1 (nar .byte p1.toInt8.toInt32)).length = 128 := by rw [List.length_set]; exact hx1
          have hf2 := own_set_fit hf1 1 p1.toInt8.toInt32
          show Go W Q [(o, .inr ("com/example/hazusu/hazusu/StateBytes$Writer", [(("com/example/hazusu/hazusu/StateBytes$Writer", "bytes", "[B"), .ref u), (("com/example/hazusu/hazusu/StateBytes$Writer", "length", "I"), .int 2)])), (u, ba ((xs.set 0 (nar .byte p0.toInt8.toInt32)).set 1 (nar .byte p1.toInt8.toInt32))), (kb, ba (own_blk p0 p2))] 3 260 124 #[.val (.int p0), .val (.int p1), .val (.int p2), .val (.int p3), .val (.ref o), .val (.int f5), .val (.int 1), .val (.int 3), .val (.ref kb), .unset, .unset, .unset, .unset, .unset] []
          refine go_iload (pc' := 126) K at_124 rfl rfl ?_
          refine go_iconst (pc' := 127) (v := 3) K at_126 rfl rfl ?_
          refine go_ic_lt_f (pc' := 130) K at_127 (by decide) rfl ?_
          refine go_aload (pc' := 132) K at_130 rfl rfl rfl ?_
          refine go_iloadN (pc' := 133) K at_132 rfl rfl ?_
          refine go_virtual (pc' := 136) (Wd := 0) (i := 0) (y' := ⟨"com/example/hazusu/hazusu/StateBytes$Writer", "writeByte", "(I)V"⟩) (b := o) (argsL := [(.int p2)]) (rest := []) K (hw _ (List.mem_of_getElem? (i := 12) rfl)) (hw _ (List.mem_of_getElem? (i := 13) rfl)) (hw _ (List.mem_of_getElem? (i := 15) rfl)) (hw _ (List.mem_of_getElem? (i := 14) rfl)) (hw _ (List.mem_of_getElem? (i := 2) rfl)) (hw _ (List.mem_of_getElem? (i := 16) rfl)) rfl at_133 (ct_wb l Z h0 a0 hw [(u, ba ((xs.set 0 (nar .byte p0.toInt8.toInt32)).set 1 (nar .byte p1.toInt8.toInt32))), (kb, ba (own_blk p0 p2))] 0 o u 2 ((xs.set 0 (nar .byte p0.toInt8.toInt32)).set 1 (nar .byte p1.toInt8.toInt32)) 2 p2 rfl hx2 rfl (by decide)) (lenOf pd__I_V rfl) rfl rfl (by decide) rfl (by decide) (by decide) (by decide) (by decide) rfl ?_
          rintro _ ds' ⟨rfl, hds⟩
          rw [hds]
          have hx3 : (((xs.set 0 (nar .byte p0.toInt8.toInt32)).set 1 (nar .byte p1.toInt8.toInt32)).set 2 (nar .byte p2.toInt8.toInt32)).length = 128 := by rw [List.length_set]; exact hx2
          have hf3 := own_set_fit hf2 2 p2.toInt8.toInt32
          show Go W Q [(o, .inr ("com/example/hazusu/hazusu/StateBytes$Writer", [(("com/example/hazusu/hazusu/StateBytes$Writer", "bytes", "[B"), .ref u), (("com/example/hazusu/hazusu/StateBytes$Writer", "length", "I"), .int 3)])), (u, ba (((xs.set 0 (nar .byte p0.toInt8.toInt32)).set 1 (nar .byte p1.toInt8.toInt32)).set 2 (nar .byte p2.toInt8.toInt32))), (kb, ba (own_blk p0 p2))] 3 260 136 #[.val (.int p0), .val (.int p1), .val (.int p2), .val (.int p3), .val (.ref o), .val (.int f5), .val (.int 1), .val (.int 3), .val (.ref kb), .unset, .unset, .unset, .unset, .unset] []
          refine go_iload (pc' := 138) K at_136 rfl rfl ?_
          refine go_if_eq_f (pc' := 141) K at_138 (by decide) rfl ?_
          refine go_aload (pc' := 143) K at_141 rfl rfl rfl ?_
          refine go_aload (pc' := 145) K at_143 rfl rfl rfl ?_
          refine go_virtual (pc' := 148) (Wd := 0) (i := 0) (y' := ⟨"com/example/hazusu/hazusu/StateBytes$Writer", "writeBytes", "([B)V"⟩) (b := o) (argsL := [(.ref kb)]) (rest := []) K (hw _ (List.mem_of_getElem? (i := 40) rfl)) (hw _ (List.mem_of_getElem? (i := 41) rfl)) (hw _ (List.mem_of_getElem? (i := 43) rfl)) (hw _ (List.mem_of_getElem? (i := 42) rfl)) (hw _ (List.mem_of_getElem? (i := 2) rfl)) (hw _ (List.mem_of_getElem? (i := 44) rfl)) rfl at_145 (ct_wbs l Z h0 a0 hw [(u, ba (((xs.set 0 (nar .byte p0.toInt8.toInt32)).set 1 (nar .byte p1.toInt8.toInt32)).set 2 (nar .byte p2.toInt8.toInt32))), (kb, ba (own_blk p0 p2))] 0 1 o u kb 3 (((xs.set 0 (nar .byte p0.toInt8.toInt32)).set 1 (nar .byte p1.toInt8.toInt32)).set 2 (nar .byte p2.toInt8.toInt32)) (own_blk p0 p2) 3 rfl rfl hx3 (own_blk_len p0 p2) hf3 (own_blk_fit p0 p2) rfl (by decide)) (lenOf pd___B_V rfl) rfl rfl (by decide) rfl (by decide) (by decide) (by decide) (by decide) rfl ?_
          rintro _ ds' ⟨u2, rfl, hds⟩
          rw [hds]
          have hwl := own_w_len (xs := (((xs.set 0 (nar .byte p0.toInt8.toInt32)).set 1 (nar .byte p1.toInt8.toInt32)).set 2 (nar .byte p2.toInt8.toInt32))) (j := 3) (own_blk_len p0 p2) (by decide)
          have hwf := own_w_fit (j := 3) hf3 (own_blk_fit p0 p2)
          show Go W Q [(o, .inr ("com/example/hazusu/hazusu/StateBytes$Writer", [(("com/example/hazusu/hazusu/StateBytes$Writer", "bytes", "[B"), .ref u2), (("com/example/hazusu/hazusu/StateBytes$Writer", "length", "I"), .int 133)])), (u, ba (((xs.set 0 (nar .byte p0.toInt8.toInt32)).set 1 (nar .byte p1.toInt8.toInt32)).set 2 (nar .byte p2.toInt8.toInt32))), (kb, ba (own_blk p0 p2)), (u2, ba (own_w (((xs.set 0 (nar .byte p0.toInt8.toInt32)).set 1 (nar .byte p1.toInt8.toInt32)).set 2 (nar .byte p2.toInt8.toInt32)) (own_blk p0 p2) 3))] 4 516 148 #[.val (.int p0), .val (.int p1), .val (.int p2), .val (.int p3), .val (.ref o), .val (.int f5), .val (.int 1), .val (.int 3), .val (.ref kb), .unset, .unset, .unset, .unset, .unset] []
          refine go_iload (pc' := 150) K at_148 rfl rfl ?_
          refine go_iload (pc' := 152) K at_150 rfl rfl ?_
          refine go_if_eq_f (pc' := 155) K at_152 (by decide) rfl ?_
          refine go_sipush (pc' := 158) (v := 130) K at_155 (by decide) rfl ?_
          refine go_goto (pc' := 162) K at_158 (by decide) (by decide) ?_
          refine go_iadd (pc' := 163) K at_162 rfl ?_
          rw [show ((3 + 130) : Int32) = 133 from by decide]
          refine go_istore (pc' := 165) (Ls' := #[.val (.int p0), .val (.int p1), .val (.int p2), .val (.int p3), .val (.ref o), .val (.int f5), .val (.int 1), .val (.int 3), .val (.ref kb), .val (.int 133), .unset, .unset, .unset, .unset]) K at_163 rfl rfl ?_
          refine go_aload (pc' := 167) K at_165 rfl rfl rfl ?_
          refine go_virtual (pc' := 170) (Wd := 0) (i := 0) (y' := ⟨"com/example/hazusu/hazusu/StateBytes$Writer", "toByteArray", "()[B"⟩) (b := o) (argsL := []) (rest := []) K (hw _ (List.mem_of_getElem? (i := 23) rfl)) (hw _ (List.mem_of_getElem? (i := 24) rfl)) (hw _ (List.mem_of_getElem? (i := 26) rfl)) (hw _ (List.mem_of_getElem? (i := 25) rfl)) (hw _ (List.mem_of_getElem? (i := 2) rfl)) (hw _ (List.mem_of_getElem? (i := 27) rfl)) rfl at_167 (ct_tba l Z h0 a0 hw [(u, ba (((xs.set 0 (nar .byte p0.toInt8.toInt32)).set 1 (nar .byte p1.toInt8.toInt32)).set 2 (nar .byte p2.toInt8.toInt32))), (kb, ba (own_blk p0 p2)), (u2, ba (own_w (((xs.set 0 (nar .byte p0.toInt8.toInt32)).set 1 (nar .byte p1.toInt8.toInt32)).set 2 (nar .byte p2.toInt8.toInt32)) (own_blk p0 p2) 3))] 2 o u2 133 (own_w (((xs.set 0 (nar .byte p0.toInt8.toInt32)).set 1 (nar .byte p1.toInt8.toInt32)).set 2 (nar .byte p2.toInt8.toInt32)) (own_blk p0 p2) 3) 133 rfl (Nat.le_of_eq hwl) (by rw [hwl]; decide) (by decide) hwf rfl) (lenOf pd____B rfl) rfl rfl (by decide) rfl (by decide) (by decide) (by decide) (by decide) rfl ?_
          rintro _ ds' ⟨r, rfl, hds⟩
          rw [hds]
          show Go W Q [(o, .inr ("com/example/hazusu/hazusu/StateBytes$Writer", [(("com/example/hazusu/hazusu/StateBytes$Writer", "bytes", "[B"), .ref u2), (("com/example/hazusu/hazusu/StateBytes$Writer", "length", "I"), .int 133)])), (u, ba (((xs.set 0 (nar .byte p0.toInt8.toInt32)).set 1 (nar .byte p1.toInt8.toInt32)).set 2 (nar .byte p2.toInt8.toInt32))), (kb, ba (own_blk p0 p2)), (u2, ba (own_w (((xs.set 0 (nar .byte p0.toInt8.toInt32)).set 1 (nar .byte p1.toInt8.toInt32)).set 2 (nar .byte p2.toInt8.toInt32)) (own_blk p0 p2) 3)), (r, ba (own_cp (own_w (((xs.set 0 (nar .byte p0.toInt8.toInt32)).set 1 (nar .byte p1.toInt8.toInt32)).set 2 (nar .byte p2.toInt8.toInt32)) (own_blk p0 p2) 3) 133))] 5 772 170 #[.val (.int p0), .val (.int p1), .val (.int p2), .val (.int p3), .val (.ref o), .val (.int f5), .val (.int 1), .val (.int 3), .val (.ref kb), .val (.int 133), .unset, .unset, .unset, .unset] [(.ref r)]
          refine go_astore (pc' := 172) (Ls' := #[.val (.int p0), .val (.int p1), .val (.int p2), .val (.int p3), .val (.ref o), .val (.int f5), .val (.int 1), .val (.int 3), .val (.ref kb), .val (.int 133), .val (.ref r), .unset, .unset, .unset]) K at_170 rfl rfl rfl ?_
          refine go_aload (pc' := 174) K at_172 rfl rfl rfl ?_
          refine go_alen (pc' := 175) (i := 4) (z := 133) K rfl at_174 (by rw [List.length_map, own_cp_len]; rfl) rfl ?_
          refine go_iload (pc' := 177) K at_175 rfl rfl ?_
          refine go_ic_eq_t (pc' := 182) K at_177 (by decide) (by decide) (by decide) ?_
          refine go_iconst (pc' := 183) (v := 1) K at_182 rfl rfl ?_
          refine go_istore (pc' := 185) (Ls' := #[.val (.int p0), .val (.int p1), .val (.int p2), .val (.int p3), .val (.ref o), .val (.int f5), .val (.int 1), .val (.int 3), .val (.ref kb), .val (.int 133), .val (.ref r), .val (.int 1), .unset, .unset]) K at_183 rfl rfl ?_
          refine go_iload (pc' := 187) K at_185 rfl rfl ?_
          refine go_iconst (pc' := 188) (v := 1) K at_187 rfl rfl ?_
          refine go_ic_lt_f (pc' := 191) K at_188 (by decide) rfl ?_
          refine go_iload (pc' := 193) K at_191 rfl rfl ?_
          refine go_if_eq_f (pc' := 196) K at_193 (by decide) rfl ?_
          refine go_aload (pc' := 198) K at_196 rfl rfl rfl ?_
          refine go_iconst (pc' := 199) (v := 0) K at_198 rfl rfl ?_
          refine go_baload (pc' := 200) (i := 4) (m := 0) (x := (nar .byte p0.toInt8.toInt32)) K rfl at_199 (by decide) (by rw [own_cp_get (by decide) (by rw [hwl]; decide)]; rw [own_w_lo hx3 (by decide) (by decide)]; simp [List.getElem?_set, hx]) rfl ?_
          refine go_iloadN (pc' := 201) K at_200 rfl rfl ?_
          refine go_i2b (pc' := 202) K at_201 rfl ?_
          refine go_ic_ne_f (pc' := 205) K at_202 (own_nar p0) rfl ?_
          refine go_iconst (pc' := 206) (v := 1) K at_205 rfl rfl ?_
          refine go_goto (pc' := 210) K at_206 (by decide) (by decide) ?_
          refine go_istore (pc' := 212) (Ls' := #[.val (.int p0), .val (.int p1), .val (.int p2), .val (.int p3), .val (.ref o), .val (.int f5), .val (.int 1), .val (.int 3), .val (.ref kb), .val (.int 133), .val (.ref r), .val (.int 1), .unset, .unset]) K at_210 rfl rfl ?_
          refine go_iload (pc' := 214) K at_212 rfl rfl ?_
          refine go_iconst (pc' := 215) (v := 2) K at_214 rfl rfl ?_
          refine go_ic_lt_f (pc' := 218) K at_215 (by decide) rfl ?_
          refine go_iload (pc' := 220) K at_218 rfl rfl ?_
          refine go_if_eq_f (pc' := 223) K at_220 (by decide) rfl ?_
          refine go_aload (pc' := 225) K at_223 rfl rfl rfl ?_
          refine go_iconst (pc' := 226) (v := 1) K at_225 rfl rfl ?_
          refine go_baload (pc' := 227) (i := 4) (m := 1) (x := (nar .byte p1.toInt8.toInt32)) K rfl at_226 (by decide) (by rw [own_cp_get (by decide) (by rw [hwl]; decide)]; rw [own_w_lo hx3 (by decide) (by decide)]; simp [List.getElem?_set, hx]) rfl ?_
          refine go_iloadN (pc' := 228) K at_227 rfl rfl ?_
          refine go_i2b (pc' := 229) K at_228 rfl ?_
          refine go_ic_ne_f (pc' := 232) K at_229 (own_nar p1) rfl ?_
          refine go_iconst (pc' := 233) (v := 1) K at_232 rfl rfl ?_
          refine go_goto (pc' := 237) K at_233 (by decide) (by decide) ?_
          refine go_istore (pc' := 239) (Ls' := #[.val (.int p0), .val (.int p1), .val (.int p2), .val (.int p3), .val (.ref o), .val (.int f5), .val (.int 1), .val (.int 3), .val (.ref kb), .val (.int 133), .val (.ref r), .val (.int 1), .unset, .unset]) K at_237 rfl rfl ?_
          refine go_iload (pc' := 241) K at_239 rfl rfl ?_
          refine go_iconst (pc' := 242) (v := 3) K at_241 rfl rfl ?_
          refine go_ic_lt_f (pc' := 245) K at_242 (by decide) rfl ?_
          refine go_iload (pc' := 247) K at_245 rfl rfl ?_
          refine go_if_eq_f (pc' := 250) K at_247 (by decide) rfl ?_
          refine go_aload (pc' := 252) K at_250 rfl rfl rfl ?_
          refine go_iconst (pc' := 253) (v := 2) K at_252 rfl rfl ?_
          refine go_baload (pc' := 254) (i := 4) (m := 2) (x := (nar .byte p2.toInt8.toInt32)) K rfl at_253 (by decide) (by rw [own_cp_get (by decide) (by rw [hwl]; decide)]; rw [own_w_lo hx3 (by decide) (by decide)]; simp [List.getElem?_set, hx]) rfl ?_
          refine go_iloadN (pc' := 255) K at_254 rfl rfl ?_
          refine go_i2b (pc' := 256) K at_255 rfl ?_
          refine go_ic_ne_f (pc' := 259) K at_256 (own_nar p2) rfl ?_
          refine go_iconst (pc' := 260) (v := 1) K at_259 rfl rfl ?_
          refine go_goto (pc' := 264) K at_260 (by decide) (by decide) ?_
          refine go_istore (pc' := 266) (Ls' := #[.val (.int p0), .val (.int p1), .val (.int p2), .val (.int p3), .val (.ref o), .val (.int f5), .val (.int 1), .val (.int 3), .val (.ref kb), .val (.int 133), .val (.ref r), .val (.int 1), .unset, .unset]) K at_264 rfl rfl ?_
          refine go_iload (pc' := 268) K at_266 rfl rfl ?_
          refine go_if_eq_f (pc' := 271) K at_268 (by decide) rfl ?_
          refine go_iload (pc' := 273) K at_271 rfl rfl ?_
          refine go_if_eq_f (pc' := 276) K at_273 (by decide) rfl ?_
          refine go_aload (pc' := 278) K at_276 rfl rfl rfl ?_
          refine go_iload (pc' := 280) K at_278 rfl rfl ?_
          refine go_baload (pc' := 281) (i := 4) (m := 3) (x := (nar .byte p2.toInt8.toInt32)) K rfl at_280 (by decide) (by rw [own_cp_get (by decide) (by rw [hwl]; decide)]; exact (own_w_hi (j := 3) (t := 0) (own_blk_len p0 p2) (by decide) (by decide)).trans (own_blk_get p0 p2).1) rfl ?_
          refine go_iloadN (pc' := 282) K at_281 rfl rfl ?_
          refine go_i2b (pc' := 283) K at_282 rfl ?_
          refine go_ic_ne_f (pc' := 286) K at_283 (own_nar p2) rfl ?_
          refine go_aload (pc' := 288) K at_286 rfl rfl rfl ?_
          refine go_iload (pc' := 290) K at_288 rfl rfl ?_
          refine go_iconst (pc' := 291) (v := 1) K at_290 rfl rfl ?_
          refine go_iadd (pc' := 292) K at_291 rfl ?_
          rw [show ((3 + 1) : Int32) = 4 from by decide]
          refine go_baload (pc' := 293) (i := 4) (m := 4) (x := 0) K rfl at_292 (by decide) (by rw [own_cp_get (by decide) (by rw [hwl]; decide)]; exact (own_w_hi (j := 3) (t := 1) (own_blk_len p0 p2) (by decide) (by decide)).trans (own_blk_get p0 p2).2.1) rfl ?_
          refine go_if_ne_f (pc' := 296) K at_293 (by decide) rfl ?_
          refine go_aload (pc' := 298) K at_296 rfl rfl rfl ?_
          refine go_iload (pc' := 300) K at_298 rfl rfl ?_
          refine go_bipush (pc' := 302) (v := 64) K at_300 (by decide) rfl ?_
          refine go_iadd (pc' := 303) K at_302 rfl ?_
          rw [show ((3 + 64) : Int32) = 67 from by decide]
          refine go_baload (pc' := 304) (i := 4) (m := 67) (x := (nar .byte (XT.ushr p0 16).toInt8.toInt32)) K rfl at_303 (by decide) (by rw [own_cp_get (by decide) (by rw [hwl]; decide)]; exact (own_w_hi (j := 3) (t := 64) (own_blk_len p0 p2) (by decide) (by decide)).trans (own_blk_get p0 p2).2.2.1) rfl ?_
          refine go_iloadN (pc' := 305) K at_304 rfl rfl ?_
          refine go_bipush (pc' := 307) (v := 16) K at_305 (by decide) rfl ?_
          refine go_iushr (pc' := 308) K at_307 rfl ?_
          refine go_i2b (pc' := 309) K at_308 rfl ?_
          refine go_ic_ne_f (pc' := 312) K at_309 (own_nar _) rfl ?_
          refine go_aload (pc' := 314) K at_312 rfl rfl rfl ?_
          refine go_iload (pc' := 316) K at_314 rfl rfl ?_
          refine go_sipush (pc' := 319) (v := 128) K at_316 (by decide) rfl ?_
          refine go_iadd (pc' := 320) K at_319 rfl ?_
          rw [show ((3 + 128) : Int32) = 131 from by decide]
          refine go_baload (pc' := 321) (i := 4) (m := 131) (x := 0) K rfl at_320 (by decide) (by rw [own_cp_get (by decide) (by rw [hwl]; decide)]; exact (own_w_hi (j := 3) (t := 128) (own_blk_len p0 p2) (by decide) (by decide)).trans (own_blk_get p0 p2).2.2.2.1) rfl ?_
          refine go_if_ne_f (pc' := 324) K at_321 (by decide) rfl ?_
          refine go_aload (pc' := 326) K at_324 rfl rfl rfl ?_
          refine go_iload (pc' := 328) K at_326 rfl rfl ?_
          refine go_sipush (pc' := 331) (v := 129) K at_328 (by decide) rfl ?_
          refine go_iadd (pc' := 332) K at_331 rfl ?_
          rw [show ((3 + 129) : Int32) = 132 from by decide]
          refine go_baload (pc' := 333) (i := 4) (m := 132) (x := (nar .byte (XT.ushr p2 8).toInt8.toInt32)) K rfl at_332 (by decide) (by rw [own_cp_get (by decide) (by rw [hwl]; decide)]; exact (own_w_hi (j := 3) (t := 129) (own_blk_len p0 p2) (by decide) (by decide)).trans (own_blk_get p0 p2).2.2.2.2) rfl ?_
          refine go_iloadN (pc' := 334) K at_333 rfl rfl ?_
          refine go_bipush (pc' := 336) (v := 8) K at_334 (by decide) rfl ?_
          refine go_iushr (pc' := 337) K at_336 rfl ?_
          refine go_i2b (pc' := 338) K at_337 rfl ?_
          refine go_ic_ne_f (pc' := 341) K at_338 (own_nar _) rfl ?_
          refine go_iconst (pc' := 342) (v := 1) K at_341 rfl rfl ?_
          refine go_goto (pc' := 346) K at_342 (by decide) (by decide) ?_
          refine go_istore (pc' := 348) (Ls' := #[.val (.int p0), .val (.int p1), .val (.int p2), .val (.int p3), .val (.ref o), .val (.int f5), .val (.int 1), .val (.int 3), .val (.ref kb), .val (.int 133), .val (.ref r), .val (.int 1), .unset, .unset]) K at_346 rfl rfl ?_
          refine go_iload (pc' := 350) K at_348 rfl rfl ?_
          refine go_if_le_f (pc' := 353) K at_350 (by decide) rfl ?_
          refine go_aload (pc' := 355) K at_353 rfl rfl rfl ?_
          refine go_iconst (pc' := 356) (v := 0) K at_355 rfl rfl ?_
          refine go_baload (pc' := 357) (i := 4) (m := 0) (x := (nar .byte p0.toInt8.toInt32)) K rfl at_356 (by decide) (by rw [own_cp_get (by decide) (by rw [hwl]; decide)]; rw [own_w_lo hx3 (by decide) (by decide)]; simp [List.getElem?_set, hx]) rfl ?_
          refine go_istore (pc' := 359) (Ls' := #[.val (.int p0), .val (.int p1), .val (.int p2), .val (.int p3), .val (.ref o), .val (.int f5), .val (.int 1), .val (.int 3), .val (.ref kb), .val (.int 133), .val (.ref r), .val (.int 1), .val (.int (nar .byte p0.toInt8.toInt32)), .unset]) K at_357 rfl rfl ?_
          refine go_aload (pc' := 361) K at_359 rfl rfl rfl ?_
          refine go_iconst (pc' := 362) (v := 0) K at_361 rfl rfl ?_
          refine go_iload (pc' := 364) K at_362 rfl rfl ?_
          refine go_iconst (pc' := 365) (v := 1) K at_364 rfl rfl ?_
          refine go_ixor (pc' := 366) K at_365 rfl ?_
          refine go_i2b (pc' := 367) K at_366 rfl ?_
          refine go_bastore (pc' := 368) (i := 4) (m := 0) (ds' := [(o, .inr ("com/example/hazusu/hazusu/StateBytes$Writer", [(("com/example/hazusu/hazusu/StateBytes$Writer", "bytes", "[B"), .ref u2), (("com/example/hazusu/hazusu/StateBytes$Writer", "length", "I"), .int 133)])), (u, ba (((xs.set 0 (nar .byte p0.toInt8.toInt32)).set 1 (nar .byte p1.toInt8.toInt32)).set 2 (nar .byte p2.toInt8.toInt32))), (kb, ba (own_blk p0 p2)), (u2, ba (own_w (((xs.set 0 (nar .byte p0.toInt8.toInt32)).set 1 (nar .byte p1.toInt8.toInt32)).set 2 (nar .byte p2.toInt8.toInt32)) (own_blk p0 p2) 3)), (r, ba ((own_cp (own_w (((xs.set 0 (nar .byte p0.toInt8.toInt32)).set 1 (nar .byte p1.toInt8.toInt32)).set 2 (nar .byte p2.toInt8.toInt32)) (own_blk p0 p2) 3) 133).set 0 (nar .byte ((nar .byte p0.toInt8.toInt32) ^^^ 1).toInt8.toInt32)))]) K rfl at_367 (by decide) (by rw [own_cp_len]; decide) rfl rfl ?_
          refine go_aload (pc' := 370) K at_368 rfl rfl rfl ?_
          refine go_virtual (pc' := 373) (Wd := 0) (i := 0) (y' := ⟨"com/example/hazusu/hazusu/StateBytes$Writer", "toByteArray", "()[B"⟩) (b := o) (argsL := []) (rest := []) K (hw _ (List.mem_of_getElem? (i := 23) rfl)) (hw _ (List.mem_of_getElem? (i := 24) rfl)) (hw _ (List.mem_of_getElem? (i := 26) rfl)) (hw _ (List.mem_of_getElem? (i := 25) rfl)) (hw _ (List.mem_of_getElem? (i := 2) rfl)) (hw _ (List.mem_of_getElem? (i := 27) rfl)) rfl at_370 (ct_tba l Z h0 a0 hw [(u, ba (((xs.set 0 (nar .byte p0.toInt8.toInt32)).set 1 (nar .byte p1.toInt8.toInt32)).set 2 (nar .byte p2.toInt8.toInt32))), (kb, ba (own_blk p0 p2)), (u2, ba (own_w (((xs.set 0 (nar .byte p0.toInt8.toInt32)).set 1 (nar .byte p1.toInt8.toInt32)).set 2 (nar .byte p2.toInt8.toInt32)) (own_blk p0 p2) 3)), (r, ba ((own_cp (own_w (((xs.set 0 (nar .byte p0.toInt8.toInt32)).set 1 (nar .byte p1.toInt8.toInt32)).set 2 (nar .byte p2.toInt8.toInt32)) (own_blk p0 p2) 3) 133).set 0 (nar .byte ((nar .byte p0.toInt8.toInt32) ^^^ 1).toInt8.toInt32)))] 2 o u2 133 (own_w (((xs.set 0 (nar .byte p0.toInt8.toInt32)).set 1 (nar .byte p1.toInt8.toInt32)).set 2 (nar .byte p2.toInt8.toInt32)) (own_blk p0 p2) 3) 133 rfl (Nat.le_of_eq hwl) (by rw [hwl]; decide) (by decide) hwf rfl) (lenOf pd____B rfl) rfl rfl (by decide) rfl (by decide) (by decide) (by decide) (by decide) rfl ?_
          rintro _ ds' ⟨r2, rfl, hds⟩
          rw [hds]
          show Go W Q [(o, .inr ("com/example/hazusu/hazusu/StateBytes$Writer", [(("com/example/hazusu/hazusu/StateBytes$Writer", "bytes", "[B"), .ref u2), (("com/example/hazusu/hazusu/StateBytes$Writer", "length", "I"), .int 133)])), (u, ba (((xs.set 0 (nar .byte p0.toInt8.toInt32)).set 1 (nar .byte p1.toInt8.toInt32)).set 2 (nar .byte p2.toInt8.toInt32))), (kb, ba (own_blk p0 p2)), (u2, ba (own_w (((xs.set 0 (nar .byte p0.toInt8.toInt32)).set 1 (nar .byte p1.toInt8.toInt32)).set 2 (nar .byte p2.toInt8.toInt32)) (own_blk p0 p2) 3)), (r, ba ((own_cp (own_w (((xs.set 0 (nar .byte p0.toInt8.toInt32)).set 1 (nar .byte p1.toInt8.toInt32)).set 2 (nar .byte p2.toInt8.toInt32)) (own_blk p0 p2) 3) 133).set 0 (nar .byte ((nar .byte p0.toInt8.toInt32) ^^^ 1).toInt8.toInt32))), (r2, ba (own_cp (own_w (((xs.set 0 (nar .byte p0.toInt8.toInt32)).set 1 (nar .byte p1.toInt8.toInt32)).set 2 (nar .byte p2.toInt8.toInt32)) (own_blk p0 p2) 3) 133))] 6 1028 373 #[.val (.int p0), .val (.int p1), .val (.int p2), .val (.int p3), .val (.ref o), .val (.int f5), .val (.int 1), .val (.int 3), .val (.ref kb), .val (.int 133), .val (.ref r), .val (.int 1), .val (.int (nar .byte p0.toInt8.toInt32)), .unset] [(.ref r2)]
          refine go_astore (pc' := 375) (Ls' := #[.val (.int p0), .val (.int p1), .val (.int p2), .val (.int p3), .val (.ref o), .val (.int f5), .val (.int 1), .val (.int 3), .val (.ref kb), .val (.int 133), .val (.ref r), .val (.int 1), .val (.int (nar .byte p0.toInt8.toInt32)), .val (.ref r2)]) K at_373 rfl rfl rfl ?_
          refine go_iload (pc' := 377) K at_375 rfl rfl ?_
          refine go_if_eq_f (pc' := 380) K at_377 (by decide) rfl ?_
          refine go_aload (pc' := 382) K at_380 rfl rfl rfl ?_
          refine go_alen (pc' := 383) (i := 5) (z := 133) K rfl at_382 (by rw [List.length_map, own_cp_len]; rfl) rfl ?_
          refine go_iload (pc' := 385) K at_383 rfl rfl ?_
          refine go_ic_ne_f (pc' := 388) K at_385 (by decide) rfl ?_
          refine go_aload (pc' := 390) K at_388 rfl rfl rfl ?_
          refine go_iconst (pc' := 391) (v := 0) K at_390 rfl rfl ?_
          refine go_baload (pc' := 392) (i := 5) (m := 0) (x := (nar .byte p0.toInt8.toInt32)) K rfl at_391 (by decide) (by rw [own_cp_get (by decide) (by rw [hwl]; decide)]; rw [own_w_lo hx3 (by decide) (by decide)]; simp [List.getElem?_set, hx]) rfl ?_
          refine go_iload (pc' := 394) K at_392 rfl rfl ?_
          refine go_ic_ne_f (pc' := 397) K at_394 rfl rfl ?_
          refine go_iconst (pc' := 398) (v := 1) K at_397 rfl rfl ?_
          refine go_goto (pc' := 402) K at_398 (by decide) (by decide) ?_
          refine go_istore (pc' := 404) (Ls' := #[.val (.int p0), .val (.int p1), .val (.int p2), .val (.int p3), .val (.ref o), .val (.int f5), .val (.int 1), .val (.int 3), .val (.ref kb), .val (.int 133), .val (.ref r), .val (.int 1), .val (.int (nar .byte p0.toInt8.toInt32)), .val (.ref r2)]) K at_402 rfl rfl ?_
          refine go_goto (pc' := 432) K at_404 (by decide) (by decide) ?_
          refine go_iload (pc' := 434) K at_432 rfl rfl ?_
          exact go_zret K at_434 (by decide) (by decide) (Or.inr rfl) (by subst hQ; rfl)
      rcases hf5 with rfl | rfl
      ·
        refine go_iload (pc' := 77) K at_75 rfl rfl ?_
        refine go_if_eq_t (pc' := 100) K at_77 (by decide) (by decide) (by decide) ?_
        exact J100 _ List.length_replicate (own_rep 128)
      ·
        refine go_iload (pc' := 77) K at_75 rfl rfl ?_
        refine go_if_eq_f (pc' := 80) K at_77 (by decide) rfl ?_
        refine go_aload (pc' := 82) K at_80 rfl rfl rfl ?_
        refine go_iloadN (pc' := 83) K at_82 rfl rfl ?_
        refine go_bipush (pc' := 85) (v := 85) K at_83 (by decide) rfl ?_
        refine go_ixor (pc' := 86) K at_85 rfl ?_
        refine go_virtual (pc' := 89) (Wd := 0) (i := 0) (y' := ⟨"com/example/hazusu/hazusu/StateBytes$Writer", "writeByte", "(I)V"⟩) (b := o) (argsL := [(.int (p2 ^^^ 85))]) (rest := []) K (hw _ (List.mem_of_getElem? (i := 12) rfl)) (hw _ (List.mem_of_getElem? (i := 13) rfl)) (hw _ (List.mem_of_getElem? (i := 15) rfl)) (hw _ (List.mem_of_getElem? (i := 14) rfl)) (hw _ (List.mem_of_getElem? (i := 2) rfl)) (hw _ (List.mem_of_getElem? (i := 16) rfl)) rfl at_86 (ct_wb l Z h0 a0 hw [(u, ba (List.replicate 128 0)), (kb, ba (own_blk p0 p2))] 0 o u 0 (List.replicate 128 0) 0 (p2 ^^^ 85) rfl List.length_replicate rfl (by decide)) (lenOf pd__I_V rfl) rfl rfl (by decide) rfl (by decide) (by decide) (by decide) (by decide) rfl ?_
        rintro _ ds' ⟨rfl, hds⟩
        rw [hds]
        show Go W Q [(o, .inr ("com/example/hazusu/hazusu/StateBytes$Writer", [(("com/example/hazusu/hazusu/StateBytes$Writer", "bytes", "[B"), .ref u), (("com/example/hazusu/hazusu/StateBytes$Writer", "length", "I"), .int 1)])), (u, ba ((List.replicate 128 0).set 0 (nar .byte (p2 ^^^ 85).toInt8.toInt32))), (kb, ba (own_blk p0 p2))] 3 260 89 #[.val (.int p0), .val (.int p1), .val (.int p2), .val (.int p3), .val (.ref o), .val (.int 1), .val (.int f6), .val (.int n), .val (.ref kb), .unset, .unset, .unset, .unset, .unset] []
        refine go_aload (pc' := 91) K at_89 rfl rfl rfl ?_
        refine go_iloadN (pc' := 92) K at_91 rfl rfl ?_
        refine go_virtual (pc' := 95) (Wd := 0) (i := 0) (y' := ⟨"com/example/hazusu/hazusu/StateBytes$Writer", "writeByte", "(I)V"⟩) (b := o) (argsL := [(.int p1)]) (rest := []) K (hw _ (List.mem_of_getElem? (i := 12) rfl)) (hw _ (List.mem_of_getElem? (i := 13) rfl)) (hw _ (List.mem_of_getElem? (i := 15) rfl)) (hw _ (List.mem_of_getElem? (i := 14) rfl)) (hw _ (List.mem_of_getElem? (i := 2) rfl)) (hw _ (List.mem_of_getElem? (i := 16) rfl)) rfl at_92 (ct_wb l Z h0 a0 hw [(u, ba ((List.replicate 128 0).set 0 (nar .byte (p2 ^^^ 85).toInt8.toInt32))), (kb, ba (own_blk p0 p2))] 0 o u 1 ((List.replicate 128 0).set 0 (nar .byte (p2 ^^^ 85).toInt8.toInt32)) 1 p1 rfl (by rw [List.length_set]; exact List.length_replicate) rfl (by decide)) (lenOf pd__I_V rfl) rfl rfl (by decide) rfl (by decide) (by decide) (by decide) (by decide) rfl ?_
        rintro _ ds' ⟨rfl, hds⟩
        rw [hds]
        show Go W Q [(o, .inr ("com/example/hazusu/hazusu/StateBytes$Writer", [(("com/example/hazusu/hazusu/StateBytes$Writer", "bytes", "[B"), .ref u), (("com/example/hazusu/hazusu/StateBytes$Writer", "length", "I"), .int 2)])), (u, ba (((List.replicate 128 0).set 0 (nar .byte (p2 ^^^ 85).toInt8.toInt32)).set 1 (nar .byte p1.toInt8.toInt32))), (kb, ba (own_blk p0 p2))] 3 260 95 #[.val (.int p0), .val (.int p1), .val (.int p2), .val (.int p3), .val (.ref o), .val (.int 1), .val (.int f6), .val (.int n), .val (.ref kb), .unset, .unset, .unset, .unset, .unset] []
        refine go_aload (pc' := 97) K at_95 rfl rfl rfl ?_
        refine go_virtual (pc' := 100) (Wd := 0) (i := 0) (y' := ⟨"com/example/hazusu/hazusu/StateBytes$Writer", "clear", "()V"⟩) (b := o) (argsL := []) (rest := []) K (hw _ (List.mem_of_getElem? (i := 49) rfl)) (hw _ (List.mem_of_getElem? (i := 50) rfl)) (hw _ (List.mem_of_getElem? (i := 52) rfl)) (hw _ (List.mem_of_getElem? (i := 51) rfl)) (hw _ (List.mem_of_getElem? (i := 2) rfl)) (hw _ (List.mem_of_getElem? (i := 53) rfl)) rfl at_97 (ct_clear l Z h0 a0 hw _ o u 2) (lenOf pd___V rfl) rfl rfl (by decide) rfl (by decide) (by decide) (by decide) (by decide) rfl ?_
        rintro _ ds' ⟨rfl, hds⟩
        rw [hds]
        show Go W Q [(o, .inr ("com/example/hazusu/hazusu/StateBytes$Writer", [(("com/example/hazusu/hazusu/StateBytes$Writer", "bytes", "[B"), .ref u), (("com/example/hazusu/hazusu/StateBytes$Writer", "length", "I"), .int 0)])), (u, ba (((List.replicate 128 0).set 0 (nar .byte (p2 ^^^ 85).toInt8.toInt32)).set 1 (nar .byte p1.toInt8.toInt32))), (kb, ba (own_blk p0 p2))] 3 260 100 #[.val (.int p0), .val (.int p1), .val (.int p2), .val (.int p3), .val (.ref o), .val (.int 1), .val (.int f6), .val (.int n), .val (.ref kb), .unset, .unset, .unset, .unset, .unset] []
        exact J100 _ (by rw [List.length_set, List.length_set]; exact List.length_replicate) (own_set_fit (own_set_fit (own_rep 128) _ _) _ _)
      
    refine go_iloadN (pc' := 23) K at_22 rfl rfl ?_
    refine go_bipush (pc' := 25) (v := 8) K at_23 (by decide) rfl ?_
    refine go_iand (pc' := 26) K at_25 rfl ?_
    refine go_if_eq (pt := 33) (pc' := 29) K at_26 (by decide) (by decide) rfl (fun (hc26 : (p3 &&& 8) = 0) => ?_) (fun (hc26 : (p3 &&& 8) ≠ 0) => ?_)
    ·
      refine go_iconst (pc' := 34) (v := 0) K at_33 rfl rfl ?_
      exact J34 _ (by exact Or.inl rfl)
    ·
      refine go_iconst (pc' := 30) (v := 1) K at_29 rfl rfl ?_
      refine go_goto (pc' := 34) K at_30 (by decide) (by decide) ?_
      exact J34 _ (by exact Or.inr rfl)
  refine go_iloadN (pc' := 10) K at_9 rfl rfl ?_
  refine go_iconst (pc' := 11) (v := 4) K at_10 rfl rfl ?_
  refine go_iand (pc' := 12) K at_11 rfl ?_
  refine go_if_eq (pt := 19) (pc' := 15) K at_12 (by decide) (by decide) rfl (fun (hc12 : (p3 &&& 4) = 0) => ?_) (fun (hc12 : (p3 &&& 4) ≠ 0) => ?_)
  ·
    refine go_iconst (pc' := 20) (v := 0) K at_19 rfl rfl ?_
    exact J20 _ (by exact Or.inl rfl)
  ·
    refine go_iconst (pc' := 16) (v := 1) K at_15 rfl rfl ?_
    refine go_goto (pc' := 20) K at_16 (by decide) (by decide) ?_
    exact J20 _ (by exact Or.inr rfl)
set_option maxRecDepth 65536 in
set_option maxHeartbeats 40000000 in
theorem comes_1 {Post : Tables → Env → Array Value → State → Outcome → State → Prop} (hpost : ∀ tb e args s v u, (limb_1_1.after args s (.returned v) u = true ∧ limb_1_2.after args s (.returned v) u = true ∧ True) → FrameEnd s (.returned v) u (Jvm.fieldLocs frame_1_writes args s ++ Jvm.arrayLocs frame_1_arrays args s ++ Jvm.staticLocs frame_1_statics s) 24 1664 → Post tb e args s (.returned v) u) :
    ArmFor flags0 classFile x code maxLocals ret World_1 tables_1 room_1 Calls_1 rest_1 Pre_1 Post := by
  intro l hfl _ _ p e ha hc hk s m args below hf hA hF happ hP
  obtain ⟨hcalls, hrest, hpre⟩ := hP
  obtain ⟨-, -, -, hnamed, -, -, -, hat⟩ := (Spec.applies_iff hf).mp happ
  obtain ⟨hg, hn⟩ := and_e (Cond.before_iff.mp (show (Jvm.Cond.and given_1 narrow_1).before args s = true from hpre))
  obtain ⟨hcount, g0⟩ := and_e hg
  obtain ⟨q0, g1⟩ := and_e g0
  obtain ⟨q1, g2⟩ := and_e g1
  obtain ⟨q2, g3⟩ := and_e g2
  obtain ⟨w0, w1, w2, w3, rfl⟩ : ∃ w0 w1 w2 w3 : Value, args = #[w0, w1, w2, w3] := by
    have hs : args.size = 4 := by simpa [Cond.value, given_1] using hcount
    obtain ⟨L⟩ := args
    match L, hs with
    | [w0, w1, w2, w3], _ => exact ⟨w0, w1, w2, w3, rfl⟩
  have hw := fun d (hd : d ∈ tables_1) => atoms_spec (ws := Jvm.Cond.code x code maxLocals ret :: tables_1) hat d (List.mem_cons_of_mem _ hd)
  obtain ⟨i0, e0⟩ := is_v q0
  obtain rfl : w0 = (.int i0) := Option.some.inj e0
  obtain ⟨i1, e1⟩ := is_v q1
  obtain rfl : w1 = (.int i1) := Option.some.inj e1
  obtain ⟨i2, e2⟩ := is_v q2
  obtain rfl : w2 = (.int i2) := Option.some.inj e2
  obtain ⟨i3, e3⟩ := is_v g3
  obtain rfl : w3 = (.int i3) := Option.some.inj e3
  obtain ⟨n, o, h1, h2, h3, v, L, rfl, ⟨N, ds', -, rfl⟩, hq⟩ := law_ct l s s.heap _ hw i0 i1 i2 i3  s.heap (HL.nil s s.heap) p e ha hc hk s m _ below hf ((Spec.applies_iff_loose hf).mp happ).1 ⟨rfl, State.Warmed39.refl s, rfl⟩ trivial
  refine ⟨n, _, h1, h2, h3, hpost _ _ _ _ _ _ ⟨Cond.after_iff.mpr rfl, Cond.after_iff.mpr (eq_i res_at (Term.int_eval (1)) rfl), trivial⟩ ⟨hq.1, hq.2.1, (hq.2.2.sift fun y hy => Or.inr (N y hy)).mono (by decide) (by decide)⟩⟩
theorem main_1_1 : Claimed_1_1 := comes_1 fun _ _ _ _ _ _ h hF => ⟨h.1, hF⟩
theorem main_1_2 : Claimed_1_2 := comes_1 fun _ _ _ _ _ _ h hF => ⟨h.2.1, hF⟩
end Jvm.Pilot.@@N@@
namespace Jvm.Pilot.@@N@@
open Jvm Jvm.ClassFile Sem Op Lib Jvm.Free Jvm.Stand Jvm.Pilot.@@N@@.Jvm.D
/-! MADE BY PROGRAM (witnessworld.py) out of the Statement's table words and the real class files: 12 classes; the members and pool entries that the words name. The judged class is class 1, her method 1. -/
namespace start1
open Jvm.ClassFile
def u (s : String) : CpInfo := .utf8 (stringToUtf16 s)
/-- a pool by its gaps: so many unusable entries, then the entry; so many at the end -/
def gap : Nat → List CpInfo → List CpInfo
  | 0, r => r
  | n + 1, r => .unusable :: gap n r
def poolList (es : List (Nat × CpInfo)) (last : Nat) : List CpInfo := es.foldr (fun e r => gap e.1 (e.2 :: r)) (gap last [])
def pool (es : List (Nat × CpInfo)) (last : Nat) : Array CpInfo := ⟨poolList es last⟩
def fileOf (pool : Array CpInfo) (this : Nat) (attrs : Array Attribute := #[]) (ms : Array MethodInfo := #[]) (fl : Nat := 33) (sup : Nat := 0) (ifs : Array Nat := #[]) (fds : Array FieldInfo := #[]) : ClassFile where
  minorVersion := 0
  majorVersion := 65
  constantPool := pool
  accessFlags := fl
  thisClass := this
  superClass := sup
  interfaces := ifs
  fields := fds
  methods := ms
  attributes := attrs
def plain (name : String) (sup : Option ClassId) : Class where
  name := name
  kind := .ordinary
  loader := none
  accessFlags := 33
  super := sup
  interfaces := #[]
  cf := none
  fields := #[]
  methods := #[]
  instanceTypes := #[]
  staticTypes := #[]
  resolved := #[]
  callSites := []
  init := .initialized
  statics := none
  mirror := none

def pool0 : Array CpInfo := pool [(5, u "<init>"), (0, u "()V"), (1, .class_ 10), (1, u "java/lang/Object")] 113

def k0c0 : Code := { maxStack := 0, maxLocals := 1, code := object_method_1_code, exceptionTable := #[], attributes := #[] }
def k0m0 : Method := { name := "<init>", desc := "()V", sig := { parameters := [], returnType := none }, accessFlags := 1, code := some k0c0 }
/-- java/lang/Object -/
def k0 : Class := { plain "java/lang/Object" none with
  accessFlags := 33
  interfaces := #[]
  cf := some (fileOf pool0 8 #[] #[{ accessFlags := 1, nameIndex := 5, descriptorIndex := 6, attributes := #[] }] 33 0 #[] #[])
  fields := #[]
  methods := #[k0m0]
  instanceTypes := #[]
  staticTypes := #[]
  resolved := Array.replicate 124 none
  statics := none }

def pool1 : Array CpInfo := pool [(2, .class_ 4), (0, .nameAndType 5 6), (0, u "java/lang/Object"), (0, u "<init>"), (0, u "()V"), (0, .class_ 8), (0, u "com/example/hazusu/hazusu/StateBytes$Writer"), (0, .methodref 7 3), (0, .methodref 7 11), (0, .nameAndType 12 13), (0, u "writeByte"), (0, u "(I)V"), (0, .methodref 7 15), (0, .nameAndType 16 6), (0, u "clear"), (0, .methodref 7 18), (0, .nameAndType 19 20), (0, u "writeBytes"), (0, u "([B)V"), (0, .methodref 7 22), (0, .nameAndType 23 24), (0, u "toByteArray"), (0, u "()[B"), (0, .class_ 26), (0, u "com/example/hazusu/hazusu/WriterToByteArrayPinLaw"), (2, u "law"), (0, u "(IIII)Z")] 9

def k1m0 : Method := { name := "<init>", desc := "()V", sig := { parameters := [], returnType := none }, accessFlags := 2, code := none }
def k1c1 : Code := { maxStack := 4, maxLocals := 14, code := code, exceptionTable := #[], attributes := #[] }
def k1m1 : Method := { name := "law", desc := "(IIII)Z", sig := { parameters := [.int, .int, .int, .int], returnType := some .boolean }, accessFlags := 9, code := some k1c1 }
/-- com/example/hazusu/hazusu/WriterToByteArrayPinLaw -/
def k1 : Class := { plain "com/example/hazusu/hazusu/WriterToByteArrayPinLaw" (some 0) with
  accessFlags := 49
  interfaces := #[]
  cf := some (fileOf pool1 25 #[] #[{ accessFlags := 2, nameIndex := 5, descriptorIndex := 6, attributes := #[] }, { accessFlags := 9, nameIndex := 29, descriptorIndex := 30, attributes := #[] }] 49 2 #[] #[])
  fields := #[]
  methods := #[k1m0, k1m1]
  instanceTypes := #[]
  staticTypes := #[]
  resolved := Array.replicate 40 none
  statics := none }

def pool2 : Array CpInfo := pool [(1, .methodref 2 3), (0, .class_ 4), (0, .nameAndType 5 6), (0, u "java/lang/Object"), (0, u "<init>"), (0, u "()V"), (0, .fieldref 8 9), (0, .class_ 10), (0, .nameAndType 11 12), (0, u "com/example/hazusu/hazusu/StateBytes$Writer"), (0, u "bytes"), (0, u "[B"), (0, .methodref 8 14), (0, .nameAndType 15 16), (0, u "room"), (0, u "(I)V"), (0, .fieldref 8 18), (0, .nameAndType 19 20), (0, u "length"), (0, u "I"), (0, .methodref 22 23), (0, .class_ 24), (0, .nameAndType 25 26), (0, u "java/lang/System"), (0, u "arraycopy"), (0, u "(Ljava/lang/Object;ILjava/lang/Object;II)V"), (10, .methodref 38 39), (0, .class_ 40), (0, .nameAndType 41 42), (0, u "java/util/Arrays"), (0, u "copyOf"), (0, u "([BI)[B"), (0, .methodref 44 45), (0, .class_ 46), (0, .nameAndType 47 48), (0, u "java/lang/Math"), (0, u "max"), (0, u "(II)I"), (2, u "writeByte"), (0, u "writeBytes"), (0, u "([B)V"), (4, u "clear"), (0, u "toByteArray"), (0, u "()[B"), (3, .class_ 65), (0, u "com/example/hazusu/hazusu/StateBytes")] 2

def k2c0 : Code := { maxStack := 2, maxLocals := 1, code := prog_29_method_1_code, exceptionTable := #[], attributes := #[] }
def k2m0 : Method := { name := "<init>", desc := "()V", sig := { parameters := [], returnType := none }, accessFlags := 0, code := some k2c0 }
def k2c1 : Code := { maxStack := 5, maxLocals := 2, code := prog_29_method_2_code, exceptionTable := #[], attributes := #[] }
def k2m1 : Method := { name := "writeByte", desc := "(I)V", sig := { parameters := [.int], returnType := none }, accessFlags := 0, code := some k2c1 }
def k2c2 : Code := { maxStack := 5, maxLocals := 2, code := prog_29_method_3_code, exceptionTable := #[], attributes := #[] }
def k2m2 : Method := { name := "writeBytes", desc := "([B)V", sig := { parameters := [(.array .byte)], returnType := none }, accessFlags := 0, code := some k2c2 }
def k2c3 : Code := { maxStack := 2, maxLocals := 1, code := prog_29_method_7_code, exceptionTable := #[], attributes := #[] }
def k2m3 : Method := { name := "clear", desc := "()V", sig := { parameters := [], returnType := none }, accessFlags := 0, code := some k2c3 }
def k2c4 : Code := { maxStack := 2, maxLocals := 1, code := prog_29_method_8_code, exceptionTable := #[], attributes := #[] }
def k2m4 : Method := { name := "toByteArray", desc := "()[B", sig := { parameters := [], returnType := some (.array .byte) }, accessFlags := 0, code := some k2c4 }
def k2c5 : Code := { maxStack := 5, maxLocals := 2, code := prog_29_method_9_code, exceptionTable := #[], attributes := #[] }
def k2m5 : Method := { name := "room", desc := "(I)V", sig := { parameters := [.int], returnType := none }, accessFlags := 2, code := some k2c5 }
/-- com/example/hazusu/hazusu/StateBytes$Writer -/
def k2 : Class := { plain "com/example/hazusu/hazusu/StateBytes$Writer" (some 0) with
  accessFlags := 48
  interfaces := #[]
  cf := some (fileOf pool2 8 #[.nestHost 64] #[{ accessFlags := 0, nameIndex := 5, descriptorIndex := 6, attributes := #[] }, { accessFlags := 0, nameIndex := 51, descriptorIndex := 16, attributes := #[] }, { accessFlags := 0, nameIndex := 52, descriptorIndex := 53, attributes := #[] }, { accessFlags := 0, nameIndex := 58, descriptorIndex := 6, attributes := #[] }, { accessFlags := 0, nameIndex := 59, descriptorIndex := 60, attributes := #[] }, { accessFlags := 2, nameIndex := 15, descriptorIndex := 16, attributes := #[] }] 48 2 #[] #[{ accessFlags := 2, nameIndex := 11, descriptorIndex := 12, attributes := #[] }, { accessFlags := 2, nameIndex := 19, descriptorIndex := 20, attributes := #[] }])
  fields := #[{ name := "bytes", type := (.array .byte), accessFlags := 2, slot := 0, constantValue := 0 }, { name := "length", type := .int, accessFlags := 2, slot := 1, constantValue := 0 }]
  methods := #[k2m0, k2m1, k2m2, k2m3, k2m4, k2m5]
  instanceTypes := #[(.array .byte), .int]
  staticTypes := #[]
  resolved := Array.replicate 68 none
  statics := none }

def pool3 : Array CpInfo := pool [(2, .class_ 4), (1, u "java/lang/Object"), (0, u "<init>"), (0, u "()V"), (7, .class_ 16), (1, u "java/util/Arrays"), (57, .class_ 76), (1, u "java/util/Arrays$NaturalOrder"), (36, .class_ 115), (1, u "java/util/Arrays$LegacyMergeSort"), (1, u "Z"), (32, .methodref 151 152), (0, .class_ 153), (0, .nameAndType 154 155), (0, u "java/lang/System"), (0, u "arraycopy"), (0, u "(Ljava/lang/Object;ILjava/lang/Object;II)V"), (146, u "copyOf"), (1, .methodref 305 306), (0, .class_ 307), (0, .nameAndType 308 309), (0, u "java/lang/Math"), (0, u "min"), (0, u "(II)I"), (65, .class_ 376), (0, u "java/util/Arrays$ArrayList"), (68, u "$assertionsDisabled"), (269, u "MIN_ARRAY_SORT_GRAN"), (0, u "I"), (2, u "INSERTIONSORT_THRESHOLD"), (149, u "([BI)[B"), (105, .class_ 976), (0, u "java/util/Arrays$ArrayItr")] 52

def k3m0 : Method := { name := "<init>", desc := "()V", sig := { parameters := [], returnType := none }, accessFlags := 2, code := none }
def k3c1 : Code := { maxStack := 6, maxLocals := 3, code := jdk_65_method_121_code, exceptionTable := #[], attributes := #[] }
def k3m1 : Method := { name := "copyOf", desc := "([BI)[B", sig := { parameters := [(.array .byte), .int], returnType := some (.array .byte) }, accessFlags := 9, code := some k3c1 }
/-- java/util/Arrays -/
def k3 : Class := { plain "java/util/Arrays" (some 0) with
  accessFlags := 49
  interfaces := #[]
  cf := some (fileOf pool3 14 #[.nestMembers #[975, 375, 113, 74]] #[{ accessFlags := 2, nameIndex := 5, descriptorIndex := 6, attributes := #[] }, { accessFlags := 9, nameIndex := 302, descriptorIndex := 869, attributes := #[] }] 49 2 #[] #[{ accessFlags := 26, nameIndex := 715, descriptorIndex := 716, attributes := #[] }, { accessFlags := 26, nameIndex := 719, descriptorIndex := 716, attributes := #[] }, { accessFlags := 4120, nameIndex := 445, descriptorIndex := 117, attributes := #[] }])
  fields := #[{ name := "MIN_ARRAY_SORT_GRAN", type := .int, accessFlags := 26, slot := 0, constantValue := 0 }, { name := "INSERTIONSORT_THRESHOLD", type := .int, accessFlags := 26, slot := 1, constantValue := 0 }, { name := "$assertionsDisabled", type := .boolean, accessFlags := 4120, slot := 2, constantValue := 0 }]
  methods := #[k3m0, k3m1]
  instanceTypes := #[]
  staticTypes := #[.int, .int, .boolean]
  resolved := Array.replicate 1029 none
  statics := none }

def pool4 : Array CpInfo := pool [(1, .class_ 2), (0, u "java/lang/Math"), (1, .class_ 6), (1, u "java/lang/Object"), (0, u "<init>"), (0, u "()V"), (89, .class_ 100), (1, u "java/lang/Math$RandomNumberGeneratorHolder"), (71, u "negativeZeroFloatBits"), (0, u "J"), (2, u "negativeZeroDoubleBits"), (21, u "max"), (2, u "min"), (43, u "$assertionsDisabled"), (0, u "Z"), (88, u "(II)I"), (2, u "twoToTheDoubleScaleDown"), (0, u "D"), (4, u "twoToTheDoubleScaleUp"), (9, u "E"), (3, u "PI"), (2, u "TAU"), (2, u "DEGREES_TO_RADIANS"), (0, u "RADIANS_TO_DEGREES")] 94

def k4m0 : Method := { name := "<init>", desc := "()V", sig := { parameters := [], returnType := none }, accessFlags := 2, code := none }
def k4c1 : Code := { maxStack := 2, maxLocals := 2, code := jdk_29_method_65_code, exceptionTable := #[], attributes := #[] }
def k4m1 : Method := { name := "max", desc := "(II)I", sig := { parameters := [.int, .int], returnType := some .int }, accessFlags := 9, code := some k4c1 }
def k4c2 : Code := { maxStack := 2, maxLocals := 2, code := jdk_29_method_69_code, exceptionTable := #[], attributes := #[] }
def k4m2 : Method := { name := "min", desc := "(II)I", sig := { parameters := [.int, .int], returnType := some .int }, accessFlags := 9, code := some k4c2 }
/-- java/lang/Math -/
def k4 : Class := { plain "java/lang/Math" (some 0) with
  accessFlags := 49
  interfaces := #[]
  cf := some (fileOf pool4 1 #[.nestMembers #[98]] #[{ accessFlags := 2, nameIndex := 7, descriptorIndex := 8, attributes := #[] }, { accessFlags := 9, nameIndex := 198, descriptorIndex := 335, attributes := #[] }, { accessFlags := 9, nameIndex := 201, descriptorIndex := 335, attributes := #[] }] 49 4 #[] #[{ accessFlags := 25, nameIndex := 354, descriptorIndex := 339, attributes := #[] }, { accessFlags := 25, nameIndex := 358, descriptorIndex := 339, attributes := #[] }, { accessFlags := 25, nameIndex := 361, descriptorIndex := 339, attributes := #[] }, { accessFlags := 26, nameIndex := 364, descriptorIndex := 339, attributes := #[] }, { accessFlags := 26, nameIndex := 365, descriptorIndex := 339, attributes := #[] }, { accessFlags := 26, nameIndex := 172, descriptorIndex := 173, attributes := #[] }, { accessFlags := 26, nameIndex := 176, descriptorIndex := 173, attributes := #[] }, { accessFlags := 8, nameIndex := 344, descriptorIndex := 339, attributes := #[] }, { accessFlags := 8, nameIndex := 338, descriptorIndex := 339, attributes := #[] }, { accessFlags := 4120, nameIndex := 245, descriptorIndex := 246, attributes := #[] }])
  fields := #[{ name := "E", type := .double, accessFlags := 25, slot := 0, constantValue := 0 }, { name := "PI", type := .double, accessFlags := 25, slot := 1, constantValue := 0 }, { name := "TAU", type := .double, accessFlags := 25, slot := 2, constantValue := 0 }, { name := "DEGREES_TO_RADIANS", type := .double, accessFlags := 26, slot := 3, constantValue := 0 }, { name := "RADIANS_TO_DEGREES", type := .double, accessFlags := 26, slot := 4, constantValue := 0 }, { name := "negativeZeroFloatBits", type := .long, accessFlags := 26, slot := 5, constantValue := 0 }, { name := "negativeZeroDoubleBits", type := .long, accessFlags := 26, slot := 6, constantValue := 0 }, { name := "twoToTheDoubleScaleUp", type := .double, accessFlags := 8, slot := 7, constantValue := 0 }, { name := "twoToTheDoubleScaleDown", type := .double, accessFlags := 8, slot := 8, constantValue := 0 }, { name := "$assertionsDisabled", type := .boolean, accessFlags := 4120, slot := 9, constantValue := 0 }]
  methods := #[k4m0, k4m1, k4m2]
  instanceTypes := #[]
  staticTypes := #[.double, .double, .double, .double, .double, .long, .long, .double, .double, .boolean]
  resolved := Array.replicate 460 none
  statics := none }

def pool5 : Array CpInfo := pool [(2, .class_ 4), (1, u "java/lang/Object"), (0, u "<init>"), (0, u "()V"), (1, .class_ 10), (1, u "java/lang/System"), (0, u "allowSecurityManager"), (0, u "I"), (16, u "cons"), (0, u "Ljava/io/Console;"), (77, .class_ 110), (1, u "java/lang/System$CallersHolder"), (43, u "initialErrStream"), (0, u "Ljava/io/PrintStream;"), (19, u "security"), (0, u "Ljava/lang/SecurityManager;"), (31, .class_ 209), (0, u "java/lang/System$1"), (7, u "props"), (0, u "Ljava/util/Properties;"), (2, u "lineSeparator"), (0, u "Ljava/lang/String;"), (96, .class_ 321), (1, u "java/lang/System$LoggerFinder"), (5, .class_ 328), (0, u "java/lang/System$Logger"), (67, u "err"), (2, u "out"), (91, u "notSupportedJnuEncoding"), (15, u "in"), (17, u "initialIn"), (0, u "Ljava/io/InputStream;"), (35, u "bootLayer"), (0, u "Ljava/lang/ModuleLayer;"), (99, .class_ 664), (0, u "java/lang/System$2"), (9, u "NEVER"), (2, u "MAYBE"), (49, u "arraycopy"), (0, u "(Ljava/lang/Object;ILjava/lang/Object;II)V"), (72, .class_ 802), (0, u "java/lang/System$Logger$Level")] 31

def k5m0 : Method := { name := "<init>", desc := "()V", sig := { parameters := [], returnType := none }, accessFlags := 2, code := none }
def k5m1 : Method := { name := "arraycopy", desc := "(Ljava/lang/Object;ILjava/lang/Object;II)V", sig := { parameters := [(.object "java/lang/Object"), .int, (.object "java/lang/Object"), .int, .int], returnType := none }, accessFlags := 265, code := none }
/-- java/lang/System -/
def k5 : Class := { plain "java/lang/System" (some 0) with
  accessFlags := 49
  interfaces := #[]
  cf := some (fileOf pool5 8 #[.nestMembers #[319, 327, 801, 108, 663, 208]] #[{ accessFlags := 2, nameIndex := 5, descriptorIndex := 6, attributes := #[] }, { accessFlags := 265, nameIndex := 727, descriptorIndex := 728, attributes := #[] }] 49 2 #[] #[{ accessFlags := 25, nameIndex := 507, descriptorIndex := 526, attributes := #[] }, { accessFlags := 25, nameIndex := 399, descriptorIndex := 155, attributes := #[] }, { accessFlags := 25, nameIndex := 396, descriptorIndex := 155, attributes := #[] }, { accessFlags := 10, nameIndex := 525, descriptorIndex := 526, attributes := #[] }, { accessFlags := 26, nameIndex := 674, descriptorIndex := 12, attributes := #[] }, { accessFlags := 26, nameIndex := 677, descriptorIndex := 12, attributes := #[] }, { accessFlags := 10, nameIndex := 11, descriptorIndex := 12, attributes := #[] }, { accessFlags := 74, nameIndex := 175, descriptorIndex := 176, attributes := #[] }, { accessFlags := 10, nameIndex := 491, descriptorIndex := 222, attributes := #[] }, { accessFlags := 74, nameIndex := 29, descriptorIndex := 30, attributes := #[] }, { accessFlags := 74, nameIndex := 154, descriptorIndex := 155, attributes := #[] }, { accessFlags := 10, nameIndex := 217, descriptorIndex := 218, attributes := #[] }, { accessFlags := 10, nameIndex := 221, descriptorIndex := 222, attributes := #[] }, { accessFlags := 8, nameIndex := 562, descriptorIndex := 563, attributes := #[] }])
  fields := #[{ name := "in", type := (.object "java/io/InputStream"), accessFlags := 25, slot := 0, constantValue := 0 }, { name := "out", type := (.object "java/io/PrintStream"), accessFlags := 25, slot := 1, constantValue := 0 }, { name := "err", type := (.object "java/io/PrintStream"), accessFlags := 25, slot := 2, constantValue := 0 }, { name := "initialIn", type := (.object "java/io/InputStream"), accessFlags := 10, slot := 3, constantValue := 0 }, { name := "NEVER", type := .int, accessFlags := 26, slot := 4, constantValue := 0 }, { name := "MAYBE", type := .int, accessFlags := 26, slot := 5, constantValue := 0 }, { name := "allowSecurityManager", type := .int, accessFlags := 10, slot := 6, constantValue := 0 }, { name := "security", type := (.object "java/lang/SecurityManager"), accessFlags := 74, slot := 7, constantValue := 0 }, { name := "notSupportedJnuEncoding", type := (.object "java/lang/String"), accessFlags := 10, slot := 8, constantValue := 0 }, { name := "cons", type := (.object "java/io/Console"), accessFlags := 74, slot := 9, constantValue := 0 }, { name := "initialErrStream", type := (.object "java/io/PrintStream"), accessFlags := 74, slot := 10, constantValue := 0 }, { name := "props", type := (.object "java/util/Properties"), accessFlags := 10, slot := 11, constantValue := 0 }, { name := "lineSeparator", type := (.object "java/lang/String"), accessFlags := 10, slot := 12, constantValue := 0 }, { name := "bootLayer", type := (.object "java/lang/ModuleLayer"), accessFlags := 8, slot := 13, constantValue := 0 }]
  methods := #[k5m0, k5m1]
  instanceTypes := #[]
  staticTypes := #[(.object "java/io/InputStream"), (.object "java/io/PrintStream"), (.object "java/io/PrintStream"), (.object "java/io/InputStream"), .int, .int, .int, (.object "java/lang/SecurityManager"), (.object "java/lang/String"), (.object "java/io/Console"), (.object "java/io/PrintStream"), (.object "java/util/Properties"), (.object "java/lang/String"), (.object "java/lang/ModuleLayer")]
  resolved := Array.replicate 834 none
  statics := none }

def pool6 : Array CpInfo := pool [(1, u "java/lang/Cloneable"), (0, .class_ 1), (0, u "java/lang/Object"), (0, .class_ 3)] 3

/-- java/lang/Cloneable -/
def k6 : Class := { plain "java/lang/Cloneable" (some 0) with
  accessFlags := 1537
  interfaces := #[]
  cf := some (fileOf pool6 2 #[] #[] 1537 4 #[] #[])
  fields := #[]
  methods := #[]
  instanceTypes := #[]
  staticTypes := #[]
  resolved := Array.replicate 8 none
  statics := none }

def pool7 : Array CpInfo := pool [(1, u "java/io/Serializable"), (0, .class_ 1), (0, u "java/lang/Object"), (0, .class_ 3)] 3

/-- java/io/Serializable -/
def k7 : Class := { plain "java/io/Serializable" (some 0) with
  accessFlags := 1537
  interfaces := #[]
  cf := some (fileOf pool7 2 #[] #[] 1537 4 #[] #[])
  fields := #[]
  methods := #[]
  instanceTypes := #[]
  staticTypes := #[]
  resolved := Array.replicate 8 none
  statics := none }

/-- the primitive byte -/
def k8 : Class := { plain "byte" none with kind := .primitive 'B', accessFlags := 0x411 }
/-- [B -/
def k9 : Class := { plain "[B" (some 0) with kind := .array 8 .byte, interfaces := #[6, 7], accessFlags := 1041 }

/-- the primitive int -/
def k10 : Class := { plain "int" none with kind := .primitive 'I', accessFlags := 0x411 }
/-- [I -/
def k11 : Class := { plain "[I" (some 0) with kind := .array 10 .int, interfaces := #[6, 7], accessFlags := 1041 }

def heap : Heap := #[]
def classes : Array Class := #[k0, k1, k2, k3, k4, k5, k6, k7, k8, k9, k10, k11]
def interned : List (Array UInt16 × Addr) := []
def slotsUsed : Nat := 0
def theMethod : MethodId := ⟨1, 1⟩
def args0 : Array Value := #[.int 5, .int 300, .int 7, .int 9]
def aboutOver (below : List Frame) : State where
  vm := { classes := classes, interned := interned.toArray }
  heap := heap
  slotsUsed := slotsUsed
  threads := #[{ frames := .invoking theMethod args0 :: below }]
def below0 : List Frame := [.native { method := ⟨0, 0⟩, args := #[] }]
def about1 : State := aboutOver below0
def p0 : Program := .bare "" "" ""
def e0 : Env := launch0.env 0 0 0
theorem w_frames : about1.frames = Frame.invoking theMethod args0 :: below0 := rfl
set_option maxRecDepth 65536 in
theorem w_args : argsFit about1.vm theMethod args0 = true := by decide +kernel
set_option maxRecDepth 65536 in
theorem w_heap : heapFits about1 = true := by decide +kernel
set_option maxRecDepth 65536 in
theorem w_runnable : about1.curStatus? = some .runnable := by decide +kernel
set_option maxRecDepth 65536 in
theorem w_alone : about1.alone = true := by decide +kernel
set_option maxRecDepth 65536 in
theorem w_named : about1.methodNamed? x = some theMethod := by decide +kernel
set_option maxRecDepth 65536 in
theorem w_hears : about1.hears theMethod below0 = true := by decide +kernel
set_option maxRecDepth 65536 in
theorem w_ripe : about1.ripe theMethod args0 below0 = true := by decide +kernel
theorem w_running : about1.status = .running := rfl
set_option maxRecDepth 65536 in
theorem w_room : about1.hasRoom e0.platform room_1 = true :=
  launch0.hasRoom_least _ room_1 (by decide +kernel) (by decide +kernel) (by decide +kernel) (by decide +kernel) (by decide +kernel) (by decide +kernel)
theorem allAtoms_all (ts : List Jvm.Cond) (a : Array Jvm.Value) (st : Jvm.State) : (allAtoms ts).before a st = ts.all (fun c => c.before a st) := by
  induction ts with
  | nil => rfl
  | cons c t ih =>
    show (Jvm.Cond.and c (allAtoms t)).before a st = _
    rw [Jvm.Cond.before_and, ih, List.all_cons]
def words1 : List Jvm.Cond := Jvm.Cond.code x code maxLocals ret :: tables_1
/-- a 'code' word, met by the world's own term for the bytes: nothing is compared byte by byte -/
theorem code_word {y : MethodName} {bytes : ByteArray} {mx : Nat} {rt : Option FieldType} {a : Array Value} {s : State} {m : MethodId} {meth : Method} {c : Code} (h1 : s.methodNamed? y = some m) (h2 : s.vm.method? m = some meth) (h3 : meth.code = some c) (h4 : c.code = bytes)
    (h5 : (c.maxLocals == mx && c.exceptionTable.isEmpty && decide (c.maxStack ≤ mostOperands) && decide (meth.sig.returnType = rt) && !meth.locks && decide (parseMethodDescriptor y.desc = some meth.sig)) = true) : (Jvm.Cond.code y bytes mx rt).before a s = true := by
  simp only [Bool.and_eq_true, beq_iff_eq, Bool.not_eq_true', decide_eq_true_eq] at h5
  obtain ⟨⟨⟨⟨⟨g1, g2⟩, g3⟩, g4⟩, g5⟩, g6⟩ := h5
  simp [Cond.before, Cond.holds, Cond.value, h1, h2, h3, h4, g1, g2, g3, g4, g5, g6]
def isCode : Jvm.Cond → Bool
  | .code _ _ _ _ => true
  | _ => false
theorem all_split {L : List Jvm.Cond} {P : Jvm.Cond → Bool} (h1 : L.all (fun c => isCode c || P c) = true) (h2 : ∀ c ∈ L.filter isCode, P c = true) : L.all P = true := by
  refine List.all_eq_true.mpr fun c hc => ?_
  have h := List.all_eq_true.mp h1 c hc
  rcases Bool.eq_false_or_eq_true (isCode c) with hi | hi
  · exact h2 c (List.mem_filter.mpr ⟨hc, hi⟩)
  · simpa [hi] using h
set_option maxRecDepth 65536 in
theorem w_c0 : (Jvm.Cond.code x code maxLocals ret).before args0 about1 = true := code_word (m := ⟨1, 1⟩) (meth := k1m1) (c := k1c1) (by decide +kernel) rfl rfl rfl (by decide +kernel)
set_option maxRecDepth 65536 in
theorem w_c1 : (Jvm.Cond.code ({ cls := "com/example/hazusu/hazusu/StateBytes$Writer", name := "<init>", desc := "()V" } : Jvm.MethodName) prog_29_method_1_code (1 : Nat) (Option.none : Option Jvm.ClassFile.FieldType)).before args0 about1 = true := code_word (m := ⟨2, 0⟩) (meth := k2m0) (c := k2c0) (by decide +kernel) rfl rfl rfl (by decide +kernel)
set_option maxRecDepth 65536 in
theorem w_c2 : (Jvm.Cond.code ({ cls := "java/lang/Object", name := "<init>", desc := "()V" } : Jvm.MethodName) object_method_1_code (1 : Nat) (Option.none : Option Jvm.ClassFile.FieldType)).before args0 about1 = true := code_word (m := ⟨0, 0⟩) (meth := k0m0) (c := k0c0) (by decide +kernel) rfl rfl rfl (by decide +kernel)
set_option maxRecDepth 65536 in
theorem w_c3 : (Jvm.Cond.code ({ cls := "com/example/hazusu/hazusu/StateBytes$Writer", name := "writeByte", desc := "(I)V" } : Jvm.MethodName) prog_29_method_2_code (2 : Nat) (Option.none : Option Jvm.ClassFile.FieldType)).before args0 about1 = true := code_word (m := ⟨2, 1⟩) (meth := k2m1) (c := k2c1) (by decide +kernel) rfl rfl rfl (by decide +kernel)
set_option maxRecDepth 65536 in
theorem w_c4 : (Jvm.Cond.code ({ cls := "com/example/hazusu/hazusu/StateBytes$Writer", name := "room", desc := "(I)V" } : Jvm.MethodName) prog_29_method_9_code (2 : Nat) (Option.none : Option Jvm.ClassFile.FieldType)).before args0 about1 = true := code_word (m := ⟨2, 5⟩) (meth := k2m5) (c := k2c5) (by decide +kernel) rfl rfl rfl (by decide +kernel)
set_option maxRecDepth 65536 in
theorem w_c5 : (Jvm.Cond.code ({ cls := "com/example/hazusu/hazusu/StateBytes$Writer", name := "toByteArray", desc := "()[B" } : Jvm.MethodName) prog_29_method_8_code (1 : Nat) (Option.some (Jvm.ClassFile.FieldType.array Jvm.ClassFile.FieldType.byte))).before args0 about1 = true := code_word (m := ⟨2, 4⟩) (meth := k2m4) (c := k2c4) (by decide +kernel) rfl rfl rfl (by decide +kernel)
set_option maxRecDepth 65536 in
theorem w_c6 : (Jvm.Cond.code ({ cls := "java/util/Arrays", name := "copyOf", desc := "([BI)[B" } : Jvm.MethodName) jdk_65_method_121_code (3 : Nat) (Option.some (Jvm.ClassFile.FieldType.array Jvm.ClassFile.FieldType.byte))).before args0 about1 = true := code_word (m := ⟨3, 1⟩) (meth := k3m1) (c := k3c1) (by decide +kernel) rfl rfl rfl (by decide +kernel)
set_option maxRecDepth 65536 in
theorem w_c7 : (Jvm.Cond.code ({ cls := "java/lang/Math", name := "min", desc := "(II)I" } : Jvm.MethodName) jdk_29_method_69_code (2 : Nat) (Option.some Jvm.ClassFile.FieldType.int)).before args0 about1 = true := code_word (m := ⟨4, 2⟩) (meth := k4m2) (c := k4c2) (by decide +kernel) rfl rfl rfl (by decide +kernel)
set_option maxRecDepth 65536 in
theorem w_c8 : (Jvm.Cond.code ({ cls := "com/example/hazusu/hazusu/StateBytes$Writer", name := "writeBytes", desc := "([B)V" } : Jvm.MethodName) prog_29_method_3_code (2 : Nat) (Option.none : Option Jvm.ClassFile.FieldType)).before args0 about1 = true := code_word (m := ⟨2, 2⟩) (meth := k2m2) (c := k2c2) (by decide +kernel) rfl rfl rfl (by decide +kernel)
set_option maxRecDepth 65536 in
theorem w_c9 : (Jvm.Cond.code ({ cls := "java/lang/Math", name := "max", desc := "(II)I" } : Jvm.MethodName) jdk_29_method_65_code (2 : Nat) (Option.some Jvm.ClassFile.FieldType.int)).before args0 about1 = true := code_word (m := ⟨4, 1⟩) (meth := k4m1) (c := k4c1) (by decide +kernel) rfl rfl rfl (by decide +kernel)
set_option maxRecDepth 65536 in
theorem w_c10 : (Jvm.Cond.code ({ cls := "com/example/hazusu/hazusu/StateBytes$Writer", name := "clear", desc := "()V" } : Jvm.MethodName) prog_29_method_7_code (1 : Nat) (Option.none : Option Jvm.ClassFile.FieldType)).before args0 about1 = true := code_word (m := ⟨2, 3⟩) (meth := k2m3) (c := k2c3) (by decide +kernel) rfl rfl rfl (by decide +kernel)
def codes1 : List Jvm.Cond := [Jvm.Cond.code x code maxLocals ret, Jvm.Cond.code ({ cls := "com/example/hazusu/hazusu/StateBytes$Writer", name := "<init>", desc := "()V" } : Jvm.MethodName) prog_29_method_1_code (1 : Nat) (Option.none : Option Jvm.ClassFile.FieldType), Jvm.Cond.code ({ cls := "java/lang/Object", name := "<init>", desc := "()V" } : Jvm.MethodName) object_method_1_code (1 : Nat) (Option.none : Option Jvm.ClassFile.FieldType), Jvm.Cond.code ({ cls := "com/example/hazusu/hazusu/StateBytes$Writer", name := "writeByte", desc := "(I)V" } : Jvm.MethodName) prog_29_method_2_code (2 : Nat) (Option.none : Option Jvm.ClassFile.FieldType), Jvm.Cond.code ({ cls := "com/example/hazusu/hazusu/StateBytes$Writer", name := "room", desc := "(I)V" } : Jvm.MethodName) prog_29_method_9_code (2 : Nat) (Option.none : Option Jvm.ClassFile.FieldType), Jvm.Cond.code ({ cls := "com/example/hazusu/hazusu/StateBytes$Writer", name := "toByteArray", desc := "()[B" } : Jvm.MethodName) prog_29_method_8_code (1 : Nat) (Option.some (Jvm.ClassFile.FieldType.array Jvm.ClassFile.FieldType.byte)), Jvm.Cond.code ({ cls := "java/util/Arrays", name := "copyOf", desc := "([BI)[B" } : Jvm.MethodName) jdk_65_method_121_code (3 : Nat) (Option.some (Jvm.ClassFile.FieldType.array Jvm.ClassFile.FieldType.byte)), Jvm.Cond.code ({ cls := "java/lang/Math", name := "min", desc := "(II)I" } : Jvm.MethodName) jdk_29_method_69_code (2 : Nat) (Option.some Jvm.ClassFile.FieldType.int), Jvm.Cond.code ({ cls := "com/example/hazusu/hazusu/StateBytes$Writer", name := "writeBytes", desc := "([B)V" } : Jvm.MethodName) prog_29_method_3_code (2 : Nat) (Option.none : Option Jvm.ClassFile.FieldType), Jvm.Cond.code ({ cls := "java/lang/Math", name := "max", desc := "(II)I" } : Jvm.MethodName) jdk_29_method_65_code (2 : Nat) (Option.some Jvm.ClassFile.FieldType.int), Jvm.Cond.code ({ cls := "com/example/hazusu/hazusu/StateBytes$Writer", name := "clear", desc := "()V" } : Jvm.MethodName) prog_29_method_7_code (1 : Nat) (Option.none : Option Jvm.ClassFile.FieldType)]
set_option maxRecDepth 65536 in
theorem codes_eq : words1.filter isCode = codes1 := rfl
theorem w_codes : ∀ c ∈ words1.filter isCode, c.before args0 about1 = true := by
  rw [codes_eq]
  intro c hc
  simp only [codes1, List.mem_cons, List.not_mem_nil, or_false] at hc
  rcases hc with rfl | rfl | rfl | rfl | rfl | rfl | rfl | rfl | rfl | rfl | rfl
  · exact w_c0
  · exact w_c1
  · exact w_c2
  · exact w_c3
  · exact w_c4
  · exact w_c5
  · exact w_c6
  · exact w_c7
  · exact w_c8
  · exact w_c9
  · exact w_c10
set_option maxRecDepth 65536 in
theorem w_t1 : (words1.take 24).all (fun c => isCode c || c.before args0 about1) = true := by decide +kernel
set_option maxRecDepth 65536 in
theorem w_t2 : ((words1.drop 24).take 24).all (fun c => isCode c || c.before args0 about1) = true := by decide +kernel
set_option maxRecDepth 65536 in
theorem w_t3 : ((words1.drop 24).drop 24).all (fun c => isCode c || c.before args0 about1) = true := by decide +kernel
theorem w_tables : (allAtoms (Jvm.Cond.code x code maxLocals ret :: tables_1)).before args0 about1 = true := by
  rw [allAtoms_all]
  show words1.all (fun c => c.before args0 about1) = true
  refine all_split ?_ w_codes
  rw [← List.take_append_drop 24 words1, List.all_append, w_t1, ← List.take_append_drop 24 (words1.drop 24), List.all_append, w_t2, w_t3]
  rfl
set_option maxRecDepth 65536 in
theorem w_case : (Jvm.Cond.and given_1 narrow_1).before args0 about1 = true := by decide +kernel
theorem w_applies : (headSpec (Jvm.Cond.code x code maxLocals ret :: tables_1) room_1).applies x e0.platform about1 = true :=
  (Spec.applies_iff w_frames).mpr ⟨w_running, w_runnable, w_alone, w_named, w_hears, w_ripe, w_room, w_tables⟩
theorem atStart : AtStart classFile x code maxLocals ret World_1 tables_1 room_1 Calls_1 rest_1 Pre_1 launch0 p0 e0 about1 theMethod args0 below0 :=
  ⟨lists_1, trivial, launch0.admits_env _ _ _, launch0.least_env, fairChoices_fair.cas, fairChoices_fair.clock, w_frames, w_args, w_heap, w_applies, trivial, trivial, w_case⟩
end start1
theorem witness_1 : WitnessClaimed_1 := ⟨start1.p0, start1.e0, start1.about1, start1.theMethod, start1.args0, start1.below0, start1.atStart⟩
end Jvm.Pilot.@@N@@
