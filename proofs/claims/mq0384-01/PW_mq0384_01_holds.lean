import PyProof.Rows.All
import Wide.All
import OpenK.AllK
import Wide.FinOn
import PySem.Challenge.RW_mq0384_01
set_option Elab.async false
set_option maxRecDepth 100000
set_option maxHeartbeats 0
set_option linter.all false
set_option genSizeOf false
set_option genSizeOfSpec false
section
namespace Mine
open PySem PySem.W
open PySem.Sem (wp finPost)
open PySem.W.X (KT)
noncomputable abbrev den : Code → Sem Fin := PySem.W.Fast.tw11892475500146522536 PySem.W.Fast.tw14364793385576792824
theorem den_eq : denote table = den := by
 rw [table_eq_tree]
 exact (congrFun PySem.W.Fast.te11892475500146522536 treeTable).trans (congrArg PySem.W.Fast.tw11892475500146522536 PySem.W.Fast.te14364793385576792824)
structure Kf where
 Γ : Ctx
 p : Pos
 k : Result → Sem Fin
structure YV where
 prog : Program
 w : World
 h₀ : Heap
 n₁ : Nat
 kt : KT
 as : List Nat
 k₀ : Nat
 B : Nat
 gens : Array GenState
 d : Drawn
 tk : Nat
 os : OsState
 vs : List (Value × Value)
noncomputable def adr (V : YV) (j : Nat) : Nat := match Nat.blt j V.k₀ with
 | true => V.as.getD j 0
 | false => V.B + j
structure Out where
 Γ : Ctx
 p : Pos
 κ : List Kf
 t : Sem Fin
 T : BT
 nk : Nat
 ti : Nat
 xs : List (Nat × Nat)
 bs : List (Bool × Bool)
 ss : List (String × String)
 es : List (Value × Value)
inductive OA where
 | no
 | val (v : Value)
 | dec (q : Bool)
 | tok (c : Bool) (m : Nat) (f : Nat → Value)
 | gen (c : Bool) (m : Nat) (g : Option (Obj → Obj)) (f : Nat → Value)
noncomputable abbrev Rest := BT → Nat → Nat → Nat → List (Bool × Bool) → List (Nat × Nat) → List (Bool × Bool) → List (String × String) → List (Value × Value) → Option Out
noncomputable abbrev RunTy := Ctx → Pos → List Kf → Sem Fin → Rest
noncomputable def nay : Rest := fun _ _ _ _ _ _ _ _ _ => none
noncomputable def retR (ih : RunTy) (r : Result) : List Kf → Rest
 | [] => nay
 | f :: κ => ih f.Γ f.p κ (f.k r)
noncomputable def noObj : Obj := ⟨.none, none, .plain, #[]⟩
noncomputable def refIn : List Value → Nat
 | [] => 0
 | .ref x :: _ => x
 | _ :: l => refIn l
noncomputable def refArg (a : Args) : Nat := refIn a.pos
noncomputable def orcR (V : YV) (ih : RunTy) (Γ : Ctx) (p : Pos) (κ : List Kf) (k : Result → Sem Fin) (id' id : String) (oa : OA) : Rest := fun T nk ti tr ds xs bs ss es => match oa with
 | .no => none
 | .val v => ih Γ p κ (k (.ok (.ret v))) T nk ti tr ds xs bs ((id', id) :: ss) es
 | .dec q => match ds with
   | [] => none
   | d :: ds => ih Γ p κ (k (.ok (.ret (.bool d.2)))) T nk ti tr ds xs ((q, d.1) :: bs) ((id', id) :: ss) es
 | .tok c m f => match ds with
   | [] => none
   | d :: ds => match d.2 with
     | true => ih Γ p κ (k (.ok (.ret (f (V.tk + ti))))) T nk (ti + m) tr ds xs ((c, d.1) :: bs) ((id', id) :: ss) es
     | false => none
 | .gen _ _ _ _ => none
noncomputable def updT (T : BT) (i : Nat) : Option (Obj → Obj) → BT
 | none => T
 | some g => T.set i g
noncomputable def freedBy (o : Obj) : Option (Obj → Obj) → Bool
 | none => false
 | some g => (g o).isFreed
noncomputable def supply : List (Value × Value) → Nat → Option (Value × Value)
 | [], _ => none
 | v :: l, n => match Nat.beq n 0 with
   | true => some v
   | false => supply l (n - 1)
theorem supply_mem : ∀ {l : List (Value × Value)} {n : Nat} {v : Value × Value}, supply l n = some v → v ∈ l
 | [], _, _, h => by cases h
 | w :: l, n, v, h => by
   unfold supply at h
   split at h
   · cases h; exact .head _
   · exact .tail _ (supply_mem h)
noncomputable def orcG (V : YV) (ih : RunTy) (Γ : Ctx) (p : Pos) (κ : List Kf) (k : Result → Sem Fin) (id' id : String) (oa : OA) (i : Nat) (o : Obj) : Rest := fun T nk ti tr ds xs bs ss es => match oa with
 | .gen c m g f => match ds with
   | [] => none
   | d :: ds => match d.2 with
     | false => none
     | true => match freedBy o g with
       | true => none
       | false => match supply V.vs es.length with
         | none => ih Γ p κ (k (.ok (.ret (f (V.tk + ti))))) (updT T i g) nk (ti + m) tr ds xs ((c, d.1) :: bs) ((id', id) :: ss) es
         | some v => ih Γ p κ (k (.ok (.ret v.2))) (updT T i g) nk (ti + m) tr ds xs ((c, d.1) :: bs) ((id', id) :: ss) ((f (V.tk + ti), v.1) :: es)
 | oa => orcR V ih Γ p κ k id' id oa T nk ti tr ds xs bs ss es
noncomputable def oCode (b : Bool) (id : String) (args : Args) : Code := match b with
 | false => .call (.builtin id) args
 | true => .builtin id args
noncomputable def oArgs (b : Bool) (c : Code) : Option (String × Args) := match b with
 | false => match c with
   | .call f args => match f with
     | .builtin id => some (id, args)
     | _ => none
   | _ => none
 | true => match c with
   | .builtin id args => some (id, args)
   | _ => none
theorem oArgs_is {b : Bool} {c : Code} {x : String × Args} (h : oArgs b c = some x) : c = oCode b x.1 x.2 := by
 unfold oArgs at h
 cases b <;> dsimp only at h <;> (repeat' split at h) <;> first | cases h; done | (cases h; rfl)
noncomputable def stepR (V : YV) (O : Nat → (Bool × String) × (Args → Obj → OA)) (ih : RunTy) (Γ : Ctx) (p : Pos) (κ : List Kf) (t : Sem Fin) : Rest := match t with
 | .pure fin => match fin with
   | .done f => retR ih (.ok f) κ
   | .again c => match c.quiet with
     | true => ih (Γ.goto c) p κ (den c)
     | false => nay
 | .raise e => retR ih (.error e) κ
 | .rule _ k => ih Γ p κ (k ())
 | .at q k => ih Γ q κ (k ())
 | .point _ k => ih Γ p κ (k ())
 | .ask k => ih Γ p κ (k ⟨V.prog, V.w.params⟩)
 | .load a _ k => fun T nk ti tr ds xs bs ss es => match tr % 64 with
   | 0 => match Nat.blt a V.n₁ with
     | true => match V.kt.get a with
       | some o => ih Γ p κ (k o) T nk ti (tr / 64) ds xs bs ss es
       | none => none
     | false => none
   | j + 1 => match T.get j with
     | some o => ih Γ p κ (k o) T nk ti (tr / 64) ds ((a, adr V j) :: xs) bs ss es
     | none => none
 | .loadIfAlive a k => fun T nk ti tr ds xs bs ss es => match tr % 64 with
   | 0 => match Nat.blt a V.n₁ with
     | true => match V.kt.get a with
       | some o => ih Γ p κ (k (some o)) T nk ti (tr / 64) ds xs bs ss es
       | none => none
     | false => none
   | j + 1 => match T.get j with
     | some o => ih Γ p κ (k (some o)) T nk ti (tr / 64) ds ((a, adr V j) :: xs) bs ss es
     | none => none
 | .alloc o k => fun T nk ti tr ds xs bs ss es => match o.isFreed with
   | true => none
   | false => match ((T.ins nk o).get nk).isSome with
     | true => ih Γ p κ (k (V.B + nk)) (T.ins nk o) (nk + 1) ti tr ds xs bs ss es
     | false => none
 | .update a _ f k => fun T nk ti tr ds xs bs ss es => match tr % 64 with
   | 0 => none
   | j + 1 => match T.get j with
     | some o => match (f o).isFreed with
       | true => none
       | false => ih Γ p κ (k ()) (T.set j f) nk ti (tr / 64) ds ((a, adr V j) :: xs) bs ss es
     | none => none
 | .fresh k => fun T nk ti tr ds xs bs ss es => ih Γ p κ (k (V.tk + ti)) T nk (ti + 1) tr ds xs bs ss es
 | .handled own k => match own with
   | false => ih Γ p κ (k Γ.handled)
   | true => ih Γ p κ (k Γ.own)
 | .stack k => ih Γ p κ (k ((Γ.code, p) :: Γ.below))
 | .call c' hd _ _ k => fun T nk ti tr ds xs bs ss es => match tr % 64 with
   | 0 => ih (Γ.enter c' hd p) p (⟨Γ, p, k⟩ :: κ) (den c') T nk ti (tr / 64) ds xs bs ss es
   | j + 1 => match oArgs (O j).1.1 c' with
     | some x => match Nat.blt j 32 with
       | true => orcR V ih Γ p κ k x.1 (O j).1.2 ((O j).2 x.2 noObj) T nk ti (tr / 64) ds xs bs ss es
       | false => match (tr / 64) % 64 with
         | 0 => none
         | i + 1 => match T.get i with
           | some o => orcG V ih Γ p κ k x.1 (O j).1.2 ((O j).2 x.2 o) i o T nk ti (tr / 64 / 64) ds ((refArg x.2, adr V i) :: xs) bs ss es
           | none => none
     | none => none
 | _ => nay
noncomputable def run (V : YV) (O : Nat → (Bool × String) × (Args → Obj → OA)) : Nat → RunTy
 | 0 => fun Γ p κ t T nk ti _ _ xs bs ss es => some ⟨Γ, p, κ, t, T, nk, ti, xs, bs, ss, es⟩
 | n + 1 => stepR V O (run V O n)
/-! ### what a configuration means -/
section
variable (M : Model) (R : Result → Shared → Prop)
noncomputable def RetK : List Kf → Result → Shared → Prop
 | [] => R
 | f :: κ => fun r s => wp M f.Γ (f.k r) (finPost M f.Γ (RetK κ)) (fun e _ s' => RetK κ (.error e) s') f.p s
noncomputable def Means (Γ : Ctx) (p : Pos) (κ : List Kf) (t : Sem Fin) (s : Shared) : Prop :=
 wp M Γ t (finPost M Γ (RetK M R κ)) (fun e _ s' => RetK M R κ (.error e) s') p s
end
noncomputable def NoTop (n₁ : Nat) (kt : KT) (a : Nat) : Prop := ∀ o, a < n₁ → kt.get a ≠ some o
structure YV.Ok (V : YV) : Prop where
 len : V.k₀ = V.as.length
 size : V.h₀.objs.size = V.B + V.k₀
 nodup : V.as.Nodup
 lt : ∀ a ∈ V.as, NoTop V.n₁ V.kt a ∧ a < V.B + V.k₀
 big : V.n₁ ≤ V.B + V.k₀
structure Rep (V : YV) (T : BT) (nk : Nat) (h : Heap) : Prop where
 size : h.objs.size = V.B + nk
 more : V.k₀ ≤ nk
 own : ∀ j o, T.get j = some o → j < nk ∧ h.get? (adr V j) = some o
 top : ∀ a o, a < V.n₁ → V.kt.get a = some o → h.get? a = some o
 keep : ∀ b o, V.h₀.get? b = some o → b ∉ V.as → h.get? b = some o
theorem adr_lt {V : YV} {j : Nat} (h : j < V.k₀) : adr V j = V.as.getD j 0 := by
 unfold adr
 rw [show Nat.blt j V.k₀ = true from Nat.ble_eq_true_of_le h]
theorem adr_ge {V : YV} {j : Nat} (h : V.k₀ ≤ j) : adr V j = V.B + j := by
 unfold adr
 cases e : Nat.blt j V.k₀ with
 | true => exact absurd (Nat.le_of_ble_eq_true e) (by omega)
 | false => rfl
theorem getD_at {l : List Nat} {j : Nat} (h : j < l.length) : l.getD j 0 = l[j] := by
 rw [List.getD_eq_getElem?_getD, List.getElem?_eq_getElem h]; rfl
theorem adr_mem {V : YV} (O : V.Ok) {j : Nat} (h : j < V.k₀) : adr V j ∈ V.as := by
 rw [adr_lt h]
 have : j < V.as.length := O.len ▸ h
 rw [getD_at this]
 exact List.getElem_mem _
theorem adr_inj {V : YV} (O : V.Ok) {i j : Nat} (e : adr V i = adr V j) : i = j := by
 by_cases hi : i < V.k₀
 · by_cases hj : j < V.k₀
   · rw [adr_lt hi, adr_lt hj] at e
     have li : i < V.as.length := O.len ▸ hi
     have lj : j < V.as.length := O.len ▸ hj
     rw [getD_at li, getD_at lj] at e
     have nd := List.pairwise_iff_getElem.mp O.nodup
     rcases Nat.lt_trichotomy i j with q | q | q
     · exact absurd e (nd i j li lj q)
     · exact q
     · exact absurd e.symm (nd j i lj li q)
   · have := (O.lt _ (adr_mem O hi)).2
     rw [e, adr_ge (Nat.le_of_not_lt hj)] at this
     omega
 · by_cases hj : j < V.k₀
   · have := (O.lt _ (adr_mem O hj)).2
     rw [← e, adr_ge (Nat.le_of_not_lt hi)] at this
     omega
   · rw [adr_ge (Nat.le_of_not_lt hi), adr_ge (Nat.le_of_not_lt hj)] at e
     omega
theorem noTop_of {n₁ a : Nat} {kt : KT} (h : n₁ ≤ a) : NoTop n₁ kt a := fun _ h1 _ => absurd h (Nat.not_le.mpr h1)
theorem adr_low {V : YV} (O : V.Ok) (j : Nat) : NoTop V.n₁ V.kt (adr V j) := by
 by_cases hj : j < V.k₀
 · exact (O.lt _ (adr_mem O hj)).1
 · rw [adr_ge (Nat.le_of_not_lt hj)]
   have := O.big
   exact noTop_of (by omega)
theorem Rep.alloc {V : YV} {T : BT} {nk : Nat} {h : Heap} (D : Rep V T nk h) {o : Obj} (hf : o.isFreed = false) (hg : ((T.ins nk o).get nk).isSome = true) : Rep V (T.ins nk o) (nk + 1) (h.push o) := by
 refine ⟨by rw [Heap.size_push, D.size, Nat.add_assoc], Nat.le_succ_of_le D.more, fun j o' e => ?_, fun a o' ha e => Heap.get?_push_of_some _ (D.top a o' ha e), fun b o' e q => Heap.get?_push_of_some _ (D.keep b o' e q)⟩
 rw [BT.get_ins o T nk hg] at e
 by_cases hj : j = nk
 · subst hj
   rw [if_pos rfl] at e
   cases e
   refine ⟨Nat.lt_succ_self _, ?_⟩
   rw [adr_ge D.more, ← D.size]
   exact Heap.get?_push_size _ hf
 · rw [if_neg hj] at e
   have z := D.own j o' e
   exact ⟨Nat.lt_succ_of_lt z.1, Heap.get?_push_of_some _ z.2⟩
theorem Rep.update {V : YV} (O : V.Ok) {T : BT} {nk : Nat} {h : Heap} (D : Rep V T nk h) {j : Nat} {o : Obj} {f : Obj → Obj} (e : T.get j = some o) (hf : (f o).isFreed = false) : Rep V (T.set j f) nk (h.update (adr V j) f) := by
 have z := D.own _ _ e
 have hs : Heap.SameBut (adr V j) h (h.update (adr V j) f) := Heap.SameBut.update ..
 refine ⟨by rw [hs.1, D.size], D.more, fun i o' e' => ?_, fun a o' ha e' => ?_, fun b o' e' q => ?_⟩
 · rw [BT.get_set] at e'
   by_cases hi : i = j
   · subst hi
     rw [if_pos rfl, e] at e'
     cases e'
     exact ⟨z.1, Heap.get?_update_self _ z.2 hf⟩
   · rw [if_neg hi] at e'
     have y := D.own i o' e'
     exact ⟨y.1, (hs.2 _ fun q => hi (adr_inj O q)).trans y.2⟩
 · have := adr_low O j
   exact (hs.2 a (fun q => this o' (q ▸ ha) (q ▸ e'))).trans (D.top a o' ha e')
 · refine (hs.2 b ?_).trans (D.keep b o' e' q)
   by_cases hj : j < V.k₀
   · exact fun q' => q (q' ▸ adr_mem O hj)
   · have l := Heap.lt_size e'
     rw [O.size] at l
     rw [adr_ge (Nat.le_of_not_lt hj)]
     exact fun q' => absurd l (by rw [q']; exact Nat.not_lt.mpr (Nat.add_le_add_left (Nat.le_of_not_lt hj) _))
noncomputable def updG (g : Option (Obj → Obj)) (a : Nat) (h : Heap) : Heap := match g with
 | none => h
 | some g => h.update a g
noncomputable def adOf : Code → Nat
 | .call _ args => refArg args
 | .builtin _ args => refArg args
 | _ => 0
theorem adOf_oCode (b : Bool) (id : String) (args : Args) : adOf (oCode b id args) = refArg args := by cases b <;> rfl
noncomputable def OASays (M : Model) (c : Code) (oa : OA) (P : Shared → Prop) : Prop := match oa with
 | .no => True
 | .val v => ∀ Γ p s R, Γ.code = c → P s → R (.ok (.ret v)) s → wpCode M Γ R p s
 | .dec q => ∀ Γ p s R, Γ.code = c → P s → R (.ok (.ret (.bool q))) s → wpCode M Γ R p s
 | .tok d m f => d = true → ∀ Γ p s R, Γ.code = c → P s → R (.ok (.ret (f s.toks))) { s with toks := s.toks + m } → wpCode M Γ R p s
 | .gen d m g f => d = true → ∀ Γ p s R, Γ.code = c → P s → R (.ok (.ret (f s.toks))) { s with heap := updG g (adOf c) s.heap, toks := s.toks + m } → wpCode M Γ R p s
noncomputable def OrcOk (V : YV) (O : Nat → (Bool × String) × (Args → Obj → OA)) : Prop := ∀ j args,
 (j < 32 → OASays (model V.prog V.w) (oCode (O j).1.1 (O j).1.2 args) ((O j).2 args noObj) fun _ => True) ∧
 (¬ j < 32 → ∀ o, OASays (model V.prog V.w) (oCode (O j).1.1 (O j).1.2 args) ((O j).2 args o) fun s => s.heap.get? (refArg args) = some o)
noncomputable def Out.st (V : YV) (h : Heap) (ti : Nat) : Shared := ⟨h, V.gens, V.d, V.tk + ti, V.os⟩
theorem model_den (p : Program) (w : World) (c : Code) : (model p w).den c = den c := by
 show denote table c = _
 rw [den_eq]
noncomputable def Owes (l out : List (α × α)) : Prop := ∃ more, out = more ++ l
theorem Owes.refl (l : List (α × α)) : Owes l l := ⟨[], rfl⟩
theorem Owes.trans {a b c : List (α × α)} : Owes a b → Owes b c → Owes a c := by
 rintro ⟨x, rfl⟩ ⟨y, rfl⟩; exact ⟨y ++ x, by simp⟩
theorem Owes.cons {x : α × α} {l out : List (α × α)} (h : Owes (x :: l) out) : Owes l out := by
 obtain ⟨m, rfl⟩ := h; exact ⟨m ++ [x], by simp⟩
theorem Owes.mem {x : α × α} {l out : List (α × α)} (h : Owes (x :: l) out) : x ∈ out := by
 obtain ⟨m, rfl⟩ := h; simp
section
variable {V : YV} {O : Nat → (Bool × String) × (Args → Obj → OA)} {R : Result → Shared → Prop}
noncomputable abbrev YV.M (V : YV) : Model := model V.prog V.w
noncomputable abbrev YV.st (V : YV) (h : Heap) (ti : Nat) : Shared := ⟨h, V.gens, V.d, V.tk + ti, V.os⟩
theorem means_code {Γ : Ctx} {p : Pos} {κ : List Kf} {s : Shared} (h : Means V.M R Γ p κ (den Γ.code) s) : wpCode V.M Γ (RetK V.M R κ) p s := by
 rw [wpCode_iff_wp, model_den]
 exact h
noncomputable def Snd (V : YV) (R : Result → Shared → Prop) (Γ : Ctx) (p : Pos) (κ : List Kf) (t : Sem Fin) (T : BT) (nk ti : Nat) (xs : List (Nat × Nat)) (bs : List (Bool × Bool)) (ss : List (String × String)) (es : List (Value × Value)) (out : Out) : Prop :=
 (Owes xs out.xs ∧ Owes bs out.bs ∧ Owes ss out.ss ∧ Owes es out.es) ∧
   ((∀ x ∈ out.xs, x.1 = x.2) → (∀ x ∈ out.bs, x.1 = x.2) → (∀ x ∈ out.ss, x.1 = x.2) → (∀ x ∈ out.es, x.1 = x.2) →
     (∀ h, Rep V out.T out.nk h → Means V.M R out.Γ out.p out.κ out.t (V.st h out.ti)) → ∀ h, Rep V T nk h → Means V.M R Γ p κ t (V.st h ti))
noncomputable def SndR (V : YV) (R : Result → Shared → Prop) (r : Result) (κ : List Kf) (T : BT) (nk ti : Nat) (xs : List (Nat × Nat)) (bs : List (Bool × Bool)) (ss : List (String × String)) (es : List (Value × Value)) (out : Out) : Prop :=
 (Owes xs out.xs ∧ Owes bs out.bs ∧ Owes ss out.ss ∧ Owes es out.es) ∧
   ((∀ x ∈ out.xs, x.1 = x.2) → (∀ x ∈ out.bs, x.1 = x.2) → (∀ x ∈ out.ss, x.1 = x.2) → (∀ x ∈ out.es, x.1 = x.2) →
     (∀ h, Rep V out.T out.nk h → Means V.M R out.Γ out.p out.κ out.t (V.st h out.ti)) → ∀ h, Rep V T nk h → RetK V.M R κ r (V.st h ti))
theorem run_sound (OV : V.Ok) (HO : OrcOk V O) (HV : ∀ v ∈ V.vs, v.1 = v.2) : ∀ (n : Nat) (Γ : Ctx) (p : Pos) (κ : List Kf) (t : Sem Fin) (T : BT) (nk ti tr : Nat) (ds : List (Bool × Bool)) (xs : List (Nat × Nat)) (bs : List (Bool × Bool)) (ss : List (String × String)) (es : List (Value × Value)) (out : Out),
   run V O n Γ p κ t T nk ti tr ds xs bs ss es = some out → (∀ d ∈ ds, d.1 = d.2) → Snd V R Γ p κ t T nk ti xs bs ss es out
 | 0, Γ, p, κ, t, T, nk, ti, tr, ds, xs, bs, ss, es, out, e, _ => by
   cases e
   exact ⟨⟨.refl _, .refl _, .refl _, .refl _⟩, fun _ _ _ _ H h D => H h D⟩
 | n + 1, Γ, p, κ, t, T, nk, ti, tr, ds, xs, bs, ss, es, out, e, hds => by
   have ret : ∀ r, retR (run V O n) r κ T nk ti tr ds xs bs ss es = some out → SndR V R r κ T nk ti xs bs ss es out := by
     intro r e
     cases κ with
     | nil => cases e
     | cons f κ => exact run_sound OV HO HV n _ _ _ _ _ _ _ _ _ _ _ _ _ out e hds
   have go : ∀ {Γ' p' κ' t' T' nk' ti' tr' xs' bs' ss' es'} {ds' : List (Bool × Bool)}, run V O n Γ' p' κ' t' T' nk' ti' tr' ds' xs' bs' ss' es' = some out → (∀ d ∈ ds', d.1 = d.2) → Snd V R Γ' p' κ' t' T' nk' ti' xs' bs' ss' es' out :=
     fun {Γ' p' κ' t' T' nk' ti' tr' xs' bs' ss' es' ds'} e h => run_sound OV HO HV n Γ' p' κ' t' T' nk' ti' tr' ds' xs' bs' ss' es' out e h
   have orc : ∀ {hd g l k c' id' args oa tr' xs'} {P : Shared → Prop} (j : Nat), c' = oCode (O j).1.1 id' args → OASays V.M (oCode (O j).1.1 (O j).1.2 args) oa P → orcR V (run V O n) Γ p κ k id' (O j).1.2 oa T nk ti tr' ds xs' bs ss es = some out →
       (Owes xs' out.xs ∧ Owes bs out.bs ∧ Owes ss out.ss ∧ Owes es out.es) ∧
       ((∀ x ∈ out.xs, x.1 = x.2) → (∀ x ∈ out.bs, x.1 = x.2) → (∀ x ∈ out.ss, x.1 = x.2) → (∀ x ∈ out.es, x.1 = x.2) →
       (∀ h, Rep V out.T out.nk h → Means V.M R out.Γ out.p out.κ out.t (V.st h out.ti)) → ∀ h, Rep V T nk h → P (V.st h ti) → Means V.M R Γ p κ (.call c' hd g l k) (V.st h ti)) := by
     intro hd g l k c' id' args oa tr' xs' P j hc hw e
     subst hc
     unfold orcR at e
     have id_of : ∀ {out : Out}, Owes ((id', (O j).1.2) :: ss) out.ss → (∀ x ∈ out.ss, x.1 = x.2) → id' = (O j).1.2 := fun ow y => y _ ow.mem
     cases oa with
     | no => cases e
     | val v =>
       obtain ⟨ow, z⟩ := go e hds
       refine ⟨⟨ow.1, ow.2.1, ow.2.2.1.cons, ow.2.2.2⟩, fun x b y ev H h D hP => ?_⟩
       show wp V.M Γ (.call _ hd g l k) _ _ p _
       rw [Sem.wp_call, id_of ow.2.2.1 y]
       exact hw _ p _ _ rfl hP (z x b y ev H h D)
     | dec q =>
       cases ds with
       | nil => cases e
       | cons d ds =>
         obtain ⟨ow, z⟩ := go e (fun d' h' => hds d' (.tail _ h'))
         refine ⟨⟨ow.1, ow.2.1.cons, ow.2.2.1.cons, ow.2.2.2⟩, fun x b y ev H h D hP => ?_⟩
         show wp V.M Γ (.call _ hd g l k) _ _ p _
         have hq : q = d.2 := (b _ ow.2.1.mem).trans (hds d (.head _))
         rw [Sem.wp_call, id_of ow.2.2.1 y]
         refine hw _ p _ _ rfl hP ?_
         rw [hq]
         exact z x b y ev H h D
     | tok c m f =>
       cases ds with
       | nil => cases e
       | cons d ds =>
         dsimp only at e
         split at e
         · rename_i hd2
           obtain ⟨ow, z⟩ := go e (fun d' h' => hds d' (.tail _ h'))
           refine ⟨⟨ow.1, ow.2.1.cons, ow.2.2.1.cons, ow.2.2.2⟩, fun x b y ev H h D hP => ?_⟩
           show wp V.M Γ (.call _ hd g l k) _ _ p _
           have hq : c = true := ((b _ ow.2.1.mem).trans (hds d (.head _))).trans hd2
           rw [Sem.wp_call, id_of ow.2.2.1 y]
           refine hw hq _ p _ _ rfl hP ?_
           have zz := z x b y ev H h D
           unfold YV.st at zz
           rw [← Nat.add_assoc] at zz
           exact zz
         · cases e
     | gen c m g f => cases e
   unfold run stepR at e
   cases t with
   | pure fin =>
     cases fin with
     | done f => exact ret _ e
     | again c =>
       cases q : c.quiet with
       | false => simp only [q] at e; cases e
       | true =>
         simp only [q] at e
         obtain ⟨ow, z⟩ := go e hds
         refine ⟨ow, fun a b c' ev H h D => ?_⟩
         show wp V.M Γ (Sem.pure (PySem.Fin.again c)) _ _ p _
         rw [Sem.wp_pure]
         exact ⟨q, means_code (z a b c' ev H h D)⟩
   | raise x =>
     obtain ⟨ow, z⟩ := ret _ e
     refine ⟨ow, fun a b c' ev H h D => ?_⟩
     show wp V.M Γ (.raise x) _ _ p _
     rw [Sem.wp_raise]
     exact z a b c' ev H h D
   | rule tag k =>
     obtain ⟨ow, z⟩ := go e hds
     refine ⟨ow, fun a b c' ev H h D => ?_⟩
     show wp V.M Γ (.rule tag k) _ _ p _
     rw [Sem.wp_rule]
     exact z a b c' ev H h D
   | «at» q k =>
     obtain ⟨ow, z⟩ := go e hds
     refine ⟨ow, fun a b c' ev H h D => ?_⟩
     show wp V.M Γ (.at q k) _ _ p _
     rw [Sem.wp_at]
     exact z a b c' ev H h D
   | point l k =>
     obtain ⟨ow, z⟩ := go e hds
     refine ⟨ow, fun a b c' ev H h D => ?_⟩
     show wp V.M Γ (.point l k) _ _ p _
     rw [Sem.wp_point]
     exact z a b c' ev H h D
   | ask k =>
     obtain ⟨ow, z⟩ := go e hds
     refine ⟨ow, fun a b c' ev H h D => ?_⟩
     show wp V.M Γ (.ask k) _ _ p _
     rw [Sem.wp_ask]
     exact z a b c' ev H h D
   | fresh k =>
     obtain ⟨ow, z⟩ := go e hds
     refine ⟨ow, fun a b c' ev H h D => ?_⟩
     show wp V.M Γ (.fresh k) _ _ p _
     rw [Sem.wp_fresh]
     exact z a b c' ev H h D
   | stack k =>
     obtain ⟨ow, z⟩ := go e hds
     refine ⟨ow, fun a b c' ev H h D => ?_⟩
     show wp V.M Γ (.stack k) _ _ p _
     rw [Sem.wp_stack]
     exact z a b c' ev H h D
   | handled own k =>
     cases own with
     | false =>
       obtain ⟨ow, z⟩ := go e hds
       refine ⟨ow, fun a b c' ev H h D => ?_⟩
       show wp V.M Γ (.handled false k) _ _ p _
       rw [Sem.wp_handled]
       exact z a b c' ev H h D
     | true =>
       obtain ⟨ow, z⟩ := go e hds
       refine ⟨ow, fun a b c' ev H h D => ?_⟩
       show wp V.M Γ (.handled true k) _ _ p _
       rw [Sem.wp_handled]
       exact z a b c' ev H h D
   | load a q k =>
     dsimp only at e
     split at e
     · split at e
       · rename_i hb
         split at e
         · rename_i o ho
           obtain ⟨ow, z⟩ := go e hds
           refine ⟨ow, fun x b c' ev H h D => ?_⟩
           show wp V.M Γ (.load a q k) _ _ p _
           rw [Sem.wp_load]
           exact ⟨o, D.top a o (Nat.le_of_ble_eq_true hb) ho, z x b c' ev H h D⟩
         · cases e
       · cases e
     · rename_i j _
       split at e
       · rename_i o ho
         obtain ⟨ow, z⟩ := go e hds
         refine ⟨⟨ow.1.cons, ow.2⟩, fun x b c' ev H h D => ?_⟩
         show wp V.M Γ (.load a q k) _ _ p _
         rw [Sem.wp_load]
         refine ⟨o, ?_, z x b c' ev H h D⟩
         have ea : a = adr V j := x _ ow.1.mem
         rw [ea]
         exact (D.own _ _ ho).2
       · cases e
   | loadIfAlive a k =>
     dsimp only at e
     split at e
     · split at e
       · rename_i hb
         split at e
         · rename_i o ho
           obtain ⟨ow, z⟩ := go e hds
           refine ⟨ow, fun x b c' ev H h D => ?_⟩
           show wp V.M Γ (.loadIfAlive a k) _ _ p _
           rw [Sem.wp_loadIfAlive]
           show wp V.M Γ (k (h.get? a)) _ _ p _
           rw [D.top a o (Nat.le_of_ble_eq_true hb) ho]
           exact z x b c' ev H h D
         · cases e
       · cases e
     · rename_i j _
       split at e
       · rename_i o ho
         obtain ⟨ow, z⟩ := go e hds
         refine ⟨⟨ow.1.cons, ow.2⟩, fun x b c' ev H h D => ?_⟩
         show wp V.M Γ (.loadIfAlive a k) _ _ p _
         rw [Sem.wp_loadIfAlive]
         have := x _ ow.1.mem
         dsimp only at this
         show wp V.M Γ (k (h.get? a)) _ _ p _
         rw [this, (D.own _ _ ho).2]
         exact z x b c' ev H h D
       · cases e
   | alloc o k =>
     dsimp only at e
     split at e
     · cases e
     · rename_i hf
       split at e
       · rename_i hg
         obtain ⟨ow, z⟩ := go e hds
         refine ⟨ow, fun x b c' ev H h D => ?_⟩
         show wp V.M Γ (.alloc o k) _ _ p _
         rw [Sem.wp_alloc]
         show wp V.M Γ (k h.objs.size) _ _ p _
         rw [D.size]
         exact z x b c' ev H (h.push o) (D.alloc hf hg)
       · cases e
   | update a q f k =>
     dsimp only at e
     split at e
     · cases e
     · rename_i j _
       split at e
       · rename_i o ho
         split at e
         · cases e
         · rename_i hf
           obtain ⟨ow, z⟩ := go e hds
           refine ⟨⟨ow.1.cons, ow.2⟩, fun x b c' ev H h D => ?_⟩
           show wp V.M Γ (.update a q f k) _ _ p _
           rw [Sem.wp_update]
           have ea : a = adr V j := x _ ow.1.mem
           subst ea
           refine ⟨?_, z x b c' ev H (h.update (adr V j) f) (D.update OV ho hf)⟩
           show (h.get? (adr V j)).isSome = true
           rw [(D.own _ _ ho).2]; rfl
       · cases e
   | call c' hd g l k =>
     dsimp only at e
     split at e
     · obtain ⟨ow, z⟩ := go e hds
       refine ⟨ow, fun x b y ev H h D => ?_⟩
       show wp V.M Γ (.call c' hd g l k) _ _ p _
       rw [Sem.wp_call]
       exact means_code (κ := ⟨Γ, p, k⟩ :: κ) (z x b y ev H h D)
     · rename_i j _
       split at e
       · rename_i y hy
         have hc := oArgs_is hy
         split at e
         · rename_i hj
           obtain ⟨ow, z⟩ := orc (hd := hd) (g := g) (l := l) j hc ((HO j y.2).1 (Nat.le_of_ble_eq_true hj)) e
           exact ⟨ow, fun x b y ev H h D => z x b y ev H h D trivial⟩
         · split at e
           · cases e
           · rename_i i _
             split at e
             · rename_i o ho
               have hw := (HO j y.2).2 (fun q => absurd (Nat.ble_eq_true_of_le q) (by rename_i hj _ _ _; exact fun q' => Bool.noConfusion (hj.symm.trans q'))) o
               have plain : orcR V (run V O n) Γ p κ k y.1 (O j).1.2 ((O j).2 y.2 o) T nk ti (tr / 64 / 64) ds ((refArg y.2, adr V i) :: xs) bs ss es = some out → Snd V R Γ p κ (.call c' hd g l k) T nk ti xs bs ss es out := fun e => by
                 obtain ⟨ow, z⟩ := orc (hd := hd) (g := g) (l := l) j hc hw e
                 refine ⟨⟨ow.1.cons, ow.2⟩, fun x b y' ev H h D => z x b y' ev H h D ?_⟩
                 have ea : refArg y.2 = adr V i := x _ ow.1.mem
                 show h.get? (refArg y.2) = some o
                 rw [ea]
                 exact (D.own _ _ ho).2
               unfold orcG at e
               cases hoa : (O j).2 y.2 o with
               | no => rw [hoa] at e plain; exact plain e
               | val v => rw [hoa] at e plain; exact plain e
               | dec v => rw [hoa] at e plain; exact plain e
               | tok c m f => rw [hoa] at e plain; exact plain e
               | gen c m g' f =>
                 rw [hoa] at e hw
                 clear plain
                 cases ds with
                 | nil => cases e
                 | cons d ds =>
                   dsimp only at e
                   split at e
                   · cases e
                   · rename_i hd2
                     split at e
                     · cases e
                     · rename_i hfr
                       have step : ∀ (v : Value) (es' : List (Value × Value)), (Owes es' out.es → (∀ x ∈ out.es, x.1 = x.2) → f (V.tk + ti) = v) → (Owes es' out.es → Owes es out.es) →
                           run V O n Γ p κ (k (.ok (.ret v))) (updT T i g') nk (ti + m) (tr / 64 / 64) ds ((refArg y.2, adr V i) :: xs) ((c, d.1) :: bs) ((y.1, (O j).1.2) :: ss) es' = some out → Snd V R Γ p κ (.call c' hd g l k) T nk ti xs bs ss es out := by
                         intro v es' hv hes e
                         obtain ⟨ow, z⟩ := go e (fun d' h' => hds d' (.tail _ h'))
                         refine ⟨⟨ow.1.cons, ow.2.1.cons, ow.2.2.1.cons, hes ow.2.2.2⟩, fun x b y' ev H h D => ?_⟩
                         have ea : refArg y.2 = adr V i := x _ ow.1.mem
                         have hq : c = true := ((b _ ow.2.1.mem).trans (hds d (.head _))).trans hd2
                         have ey : y.1 = (O j).1.2 := y' _ ow.2.2.1.mem
                         show wp V.M Γ (.call _ hd g l k) _ _ p _
                         rw [Sem.wp_call, hc, ey]
                         refine hw hq _ p _ _ rfl ?_ ?_
                         · show h.get? (refArg y.2) = some o
                           rw [ea]
                           exact (D.own _ _ ho).2
                         · have D' : Rep V (updT T i g') nk (updG g' (adr V i) h) := by
                             cases g' with
                             | none => exact D
                             | some g' => exact D.update OV ho hfr
                           have zz := z x b y' ev H _ D'
                           rw [adOf_oCode, ea]
                           unfold YV.st at zz
                           rw [← Nat.add_assoc, ← hv ow.2.2.2 ev] at zz
                           exact zz
                       split at e
                       · exact step _ es (fun _ _ => rfl) (fun q => q) e
                       · rename_i v hv
                         refine step v.2 ((f (V.tk + ti), v.1) :: es) (fun ow ev => ?_) (fun q => q.cons) e
                         exact (ev _ ow.mem).trans (HV v (supply_mem hv))
             · cases e
       · cases e
   | unsupported => cases e
   | finish => cases e
   | register => cases e
   | choose => cases e
   | os => cases e
   | newGen => cases e
   | genState => cases e
   | resume => cases e
   | «yield» => cases e
   | fork => cases e
   | thread => cases e
   | await => cases e
end
end Mine
end
section
namespace Mine
open PySem PySem.W
open PySem.Sem (wp finPost)
open PySem.W.X (KT)
structure Hp (n₁ : Nat) (kt : KT) (h : Heap) (L : List (Nat × Obj)) : Prop where
 top : ∀ a o, a < n₁ → kt.get a = some o → h.get? a = some o
 own : ∀ x ∈ L, h.get? x.1 = some x.2
 sep : (L.map (·.1)).Nodup
 low : ∀ x ∈ L, NoTop n₁ kt x.1
 big : n₁ ≤ h.objs.size
structure Beh (as : List Nat) (s s' : Shared) : Prop where
 keep : ∀ b o, s.heap.get? b = some o → b ∉ as → s'.heap.get? b = some o
 gens : s'.gens = s.gens
 drawn : s'.drawn = s.drawn
 os : s'.os = s.os
noncomputable def mkT : List (Nat × Obj) → Nat → BT → BT
 | [], _, t => t
 | x :: l, n, t => mkT l (n + 1) (t.ins n x.2)
inductive Vw where
 | ok (f : Flow)
 | err (e : Value)
 | again (Γ : Ctx)
 | call (Γ : Ctx)
 | other
noncomputable def Out.vw (o : Out) : Vw := match o.t with
 | .pure (.done f) => .ok f
 | .pure (.again c) => match c.quiet with
   | true => .again (o.Γ.goto c)
   | false => .other
 | .raise e => .err e
 | .call c hd _ _ _ => .call (o.Γ.enter c hd o.p)
 | _ => .other
noncomputable def lft {α : Type} (l : List (α × α)) : List α := l.map (·.1)
noncomputable def rgt {α : Type} (l : List (α × α)) : List α := l.map (·.2)
noncomputable abbrev Chk := List Nat × List Bool × List String × List Value × List (Option Obj) × Vw × Bool
noncomputable def chk (js : List Nat) (r : Option Out) : Option Chk := match r with
 | some o => some (lft o.xs, lft o.bs, lft o.ss, lft o.es, js.map o.T.get, o.vw, o.κ.isEmpty)
 | none => none
noncomputable def owed (r : Option Out) (os : List (Option Obj)) (v : Vw) (b : Bool) : Option Chk := match r with
 | some o => some (rgt o.xs, rgt o.bs, rgt o.ss, rgt o.es, os, v, b)
 | none => some ([], [], [], [], os, v, b)
theorem of_lr {α : Type} : ∀ {l : List (α × α)}, lft l = rgt l → ∀ x ∈ l, x.1 = x.2
 | [], _, _, h => nomatch h
 | y :: l, e, x, h => by
   have e' : y.1 :: lft l = y.2 :: rgt l := e
   injection e' with e1 e2
   rcases List.mem_cons.mp h with rfl | h
   · exact e1
   · exact of_lr e2 x h
theorem mkT_get : ∀ (l : List (Nat × Obj)) (n : Nat) (t : BT) (j : Nat) (o : Obj), (∀ k, k < l.length → True) → (mkT l n t).get j = some o →
   (∀ k x, l[k]? = some x → (((mkT (l.take k) n t).ins (n + k) x.2).get (n + k)).isSome = true) → (n ≤ j ∧ ∃ x, l[j - n]? = some x ∧ x.2 = o ∧ j < n + l.length) ∨ (t.get j = some o ∧ (j < n ∨ n + l.length ≤ j))
 | [], n, t, j, o, _, e, _ => by
   right
   refine ⟨e, ?_⟩
   simp only [List.length_nil, Nat.add_zero]
   omega
 | x :: l, n, t, j, o, _, e, hg => by
   have e' : (mkT l (n + 1) (t.ins n x.2)).get j = some o := e
   have h0 := hg 0 x rfl
   rcases mkT_get l (n + 1) (t.ins n x.2) j o (fun _ _ => trivial) e' (fun k y hy => by
     have := hg (k + 1) y hy
     have q : n + (k + 1) = n + 1 + k := by omega
     rw [q] at this
     exact this) with ⟨h1, y, h2, h3, h4⟩ | ⟨h1, h2⟩
   · left
     refine ⟨by omega, y, ?_, h3, by simp only [List.length_cons]; omega⟩
     have q : j - n = (j - (n + 1)) + 1 := by omega
     rw [q]
     exact h2
   · have h0' : ((t.ins n x.2).get n).isSome = true := h0
     rw [BT.get_ins x.2 t n h0'] at h1
     by_cases hj : j = n
     · subst hj
       rw [if_pos rfl] at h1
       cases h1
       left
       exact ⟨Nat.le_refl _, x, by simp, rfl, by simp only [List.length_cons]; omega⟩
     · rw [if_neg hj] at h1
       right
       refine ⟨h1, ?_⟩
       simp only [List.length_cons]
       omega
noncomputable def wholeT : List (Nat × Obj) → Nat → BT → Bool
 | [], _, _ => true
 | x :: l, n, t => ((t.ins n x.2).get n).isSome && wholeT l (n + 1) (t.ins n x.2)
theorem wholeT_at : ∀ (l : List (Nat × Obj)) (n : Nat) (t : BT), wholeT l n t = true → ∀ k x, l[k]? = some x → (((mkT (l.take k) n t).ins (n + k) x.2).get (n + k)).isSome = true
 | [], _, _, _, k, x, h => by simp at h
 | y :: l, n, t, hw, k, x, h => by
   have hw' := Bool.and_eq_true_iff.mp hw
   cases k with
   | zero =>
     simp only [List.getElem?_cons_zero, Option.some.injEq] at h
     subst h
     exact hw'.1
   | succ k =>
     have := wholeT_at l (n + 1) (t.ins n y.2) hw'.2 k x (by simpa using h)
     have q : n + (k + 1) = n + 1 + k := by omega
     rw [q]
     exact this
noncomputable abbrev vAtV (prog : Program) (w : World) (n₁ : Nat) (kt : KT) (s : Shared) (as : List Nat) (k B : Nat) (vs : List (Value × Value)) : YV := ⟨prog, w, s.heap, n₁, kt, as, k, B, s.gens, s.drawn, s.toks, s.os, vs⟩
noncomputable abbrev vAt (prog : Program) (w : World) (n₁ : Nat) (kt : KT) (s : Shared) (as : List Nat) (k B : Nat) : YV := vAtV prog w n₁ kt s as k B []
theorem adr_vs {prog : Program} {w : World} {n₁ : Nat} {kt : KT} {s : Shared} {as : List Nat} {k B : Nat} {vs : List (Value × Value)} (j : Nat) : adr (vAtV prog w n₁ kt s as k B vs) j = adr (vAt prog w n₁ kt s as k B) j := rfl
noncomputable def zipA (V : YV) : List Nat → List Obj → List (Nat × Obj)
 | j :: js, o :: os => (adr V j, o) :: zipA V js os
 | _, _ => []
theorem zipA_mem {V : YV} : ∀ {js : List Nat} {os : List Obj} {x : Nat × Obj}, x ∈ zipA V js os → ∃ j ∈ js, x.1 = adr V j
 | [], _, _, h => by simp [zipA] at h
 | _ :: _, [], _, h => by simp [zipA] at h
 | j :: js, o :: os, x, h => by
   rcases List.mem_cons.mp h with rfl | h
   · exact ⟨j, .head _, rfl⟩
   · obtain ⟨i, hi, e⟩ := zipA_mem h
     exact ⟨i, .tail _ hi, e⟩
theorem zipA_own {V : YV} {T : BT} {h : Heap} (own : ∀ j o, T.get j = some o → h.get? (adr V j) = some o) : ∀ {js : List Nat} {os : List Obj}, js.map T.get = os.map some → ∀ x ∈ zipA V js os, h.get? x.1 = some x.2
 | [], _, _, x, hx => by simp [zipA] at hx
 | _ :: _, [], _, x, hx => by simp [zipA] at hx
 | j :: js, o :: os, e, x, hx => by
   have e' : T.get j :: js.map T.get = some o :: os.map some := e
   injection e' with e1 e2
   rcases List.mem_cons.mp hx with rfl | hx
   · exact own j o e1
   · exact zipA_own own e2 x hx
theorem zipA_sep {V : YV} (OV : V.Ok) : ∀ {js : List Nat} {os : List Obj}, js.Nodup → ((zipA V js os).map (·.1)).Nodup
 | [], _, _ => by simp [zipA]
 | _ :: _, [], _ => by simp [zipA]
 | j :: js, o :: os, h => by
   have h' := List.nodup_cons.mp h
   show ((adr V j) :: (zipA V js os).map (·.1)).Nodup
   refine List.nodup_cons.mpr ⟨fun hm => ?_, zipA_sep OV h'.2⟩
   obtain ⟨x, hx, e⟩ := List.mem_map.mp hm
   obtain ⟨i, hi, e2⟩ := zipA_mem hx
   have : j = i := adr_inj OV (e.symm.trans e2)
   exact h'.1 (this ▸ hi)
section
variable {prog : Program} {w : World} {n₁ : Nat} {kt : KT} {O : Nat → (Bool × String) × (Args → Obj → OA)} {R : Result → Shared → Prop}
theorem vAt_ok {s : Shared} {L : List (Nat × Obj)} {vs : List (Value × Value)} (H : Hp n₁ kt s.heap L) {B : Nat} (hB : s.heap.objs.size = B + L.length) : (vAtV prog w n₁ kt s (L.map (·.1)) L.length B vs).Ok :=
 ⟨by simp, hB, H.sep, fun a ha => by
   obtain ⟨x, hx, rfl⟩ := List.mem_map.mp ha
   exact ⟨H.low x hx, hB ▸ Heap.lt_size (H.own x hx)⟩, hB ▸ H.big⟩
theorem rep_start {s : Shared} {L : List (Nat × Obj)} {vs : List (Value × Value)} (H : Hp n₁ kt s.heap L) {B : Nat} (hB : s.heap.objs.size = B + L.length) (hw : wholeT L 0 .nil = true) :
   Rep (vAtV prog w n₁ kt s (L.map (·.1)) L.length B vs) (mkT L 0 .nil) L.length s.heap := by
 refine ⟨hB, Nat.le_refl _, fun j o e => ?_, H.top, fun b o e _ => e⟩
 rcases mkT_get L 0 .nil j o (fun _ _ => trivial) e (wholeT_at L 0 .nil hw) with ⟨_, x, h2, h3, h4⟩ | ⟨h1, _⟩
 · rw [Nat.sub_zero] at h2
   rw [Nat.zero_add] at h4
   refine ⟨h4, ?_⟩
   have hm := H.own x (List.mem_of_getElem? h2)
   have ha : adr (vAtV prog w n₁ kt s (L.map (·.1)) L.length B vs) j = x.1 := by
     rw [adr_lt h4]
     show (L.map (·.1)).getD j 0 = x.1
     rw [List.getD_eq_getElem?_getD, List.getElem?_map, h2]
     rfl
   rw [ha, hm, h3]
 · cases h1
noncomputable def cfΓ (r : Option Out) : Ctx := match r with | some o => o.Γ | none => ⟨.builtin "" {}, none, none, [], none⟩
noncomputable def cfp (r : Option Out) : Pos := match r with | some o => o.p | none => ⟨0,0,0,0⟩
noncomputable def cfκ (r : Option Out) : List Kf := match r with | some o => o.κ | none => []
noncomputable def cft (r : Option Out) : Sem Fin := match r with | some o => o.t | none => .unsupported ""
noncomputable def tiO (r : Option Out) : Nat := match r with | some o => o.ti | none => 0
theorem seg (HO : ∀ V : YV, V.prog = prog → V.w = w → OrcOk V O) {Γ : Ctx} {p : Pos} {κ : List Kf} {t : Sem Fin} {s : Shared} {L : List (Nat × Obj)} (H : Hp n₁ kt s.heap L) {B : Nat} (hB : s.heap.objs.size = B + L.length) (hw : wholeT L 0 .nil = true)
   {n tr : Nat} {ds : List (Bool × Bool)} {vs : List (Value × Value)} (hvs : ∀ v ∈ vs, v.1 = v.2) (hds : ∀ d ∈ ds, d.1 = d.2) {js : List Nat} (hjs : js.Nodup) {os : List Obj} {v : Vw} {b : Bool} {r : Option Out}
   (hr : r = run (vAtV prog w n₁ kt s (L.map (·.1)) L.length B vs) O n Γ p κ t (mkT L 0 .nil) L.length 0 tr ds [] [] [] [])
   (e : chk js r = owed r (os.map some) v b)
   (fin : ∀ s', Hp n₁ kt s'.heap (zipA (vAtV prog w n₁ kt s (L.map (·.1)) L.length B vs) js os) → Beh (L.map (·.1)) s s' → s'.toks = s.toks + tiO r → Means (model prog w) R (cfΓ r) (cfp r) (cfκ r) (cft r) s') :
   Means (model prog w) R Γ p κ t s := by
 cases r with
 | none => cases e
 | some o =>
   have e' : some (lft o.xs, lft o.bs, lft o.ss, lft o.es, js.map o.T.get, o.vw, o.κ.isEmpty) = some (rgt o.xs, rgt o.bs, rgt o.ss, rgt o.es, os.map some, v, b) := e
   simp only [Option.some.injEq, Prod.mk.injEq] at e'
   obtain ⟨e1, e2, e3, e5, e4, _, _⟩ := e'
   have OV := vAt_ok (prog := prog) (w := w) (vs := vs) H hB
   obtain ⟨_, z⟩ := run_sound (R := R) OV (HO _ rfl rfl) hvs n Γ p κ t (mkT L 0 .nil) L.length 0 tr ds [] [] [] [] o hr.symm hds
   have := z (of_lr e1) (of_lr e2) (of_lr e3) (of_lr e5) (fun h D => fin _ ⟨D.top, zipA_own (fun j o' q => (D.own j o' q).2) e4, zipA_sep OV hjs, fun x hx => ?_, ?_⟩ ⟨D.keep, rfl, rfl, rfl⟩ rfl) s.heap (rep_start H hB hw)
   · exact this
   · obtain ⟨j, _, q⟩ := zipA_mem hx
     rw [q]
     exact adr_low OV j
   · show n₁ ≤ h.objs.size
     have d1 := D.size
     have d2 := D.more
     have := OV.big
     dsimp only at d1 d2 this
     omega
end
end Mine
end
section
namespace Mine
open PySem PySem.W
open PySem.W.X (KT)
noncomputable def en (P : Params) (x : Str) (t : Nat) (v : Value) : DictEntry := ⟨PyData.keyHash P x, .str x t, v⟩
noncomputable def nth {α : Type} : List α → Nat → Option α
 | [], _ => none
 | a :: l, i => match Nat.beq i 0 with
   | true => some a
   | false => nth l (i - 1)
noncomputable def theBody : List Stmt := PySem.Challenge.pw_mq0384_01.main.body
noncomputable abbrev Dft := Arguments × List Stmt × Scope
noncomputable def defIn : Option Stmt → Dft
 | some (.FunctionDef _ a b _ _ _ sc _ _ _) => (a, b, sc)
 | _ => ({ posonlyargs := [], args := [], vararg := none, kwonlyargs := [], kw_defaults := [], kwarg := none, defaults := [] }, [], { kind := .function, names := [], isGenerator := false, isCoroutine := false, more := [] })
noncomputable def clsIn : Option Stmt → List Stmt
 | some (.ClassDef _ _ _ b _ _ _ _ _ _ _) => b
 | _ => []
noncomputable def topDef (i : Nat) : Dft := defIn (nth theBody i)
noncomputable def clsDef (i j : Nat) : Dft := defIn (nth (clsIn (nth theBody i)) j)
noncomputable def fnOf (d : Dft) (name qual : Str) (globals : Addr) (closure : List (Str × Addr)) (defaults kwdefaults doc pyModule : Value) (annotations : Option Addr) (code closureTuple : Value) (builtins : Addr) : FuncData :=
 { name, qualname := qual, params := d.1, body := .stmts d.2.1, scope := d.2.2, globals, closure, defaults, kwdefaults, doc, pyModule, annotations, code, closureTuple, builtins }
noncomputable def o0 (P : Params) : Obj := ⟨.type "dict", none, .dict #[en P ⟨#[95,95,110,97,109,101,95,95]⟩ 1 (.str ⟨#[98,117,105,108,116,105,110,115]⟩ 160), en P ⟨#[95,95,100,111,99,95,95]⟩ 2 (.builtin "builtins.__doc__:str#opaque"), en P ⟨#[95,95,112,97,99,107,97,103,101,95,95]⟩ 3 (.builtin "builtins.__package__:str#opaque"), en P ⟨#[95,95,108,111,97,100,101,114,95,95]⟩ 4 (.builtin "builtins.__loader__:shared#opaque"), en P ⟨#[95,95,115,112,101,99,95,95]⟩ 5 (.builtin "builtins.__spec__#opaque"), en P ⟨#[95,95,98,117,105,108,100,95,99,108,97,115,115,95,95]⟩ 6 (.builtin "__build_class__"), en P ⟨#[95,95,105,109,112,111,114,116,95,95]⟩ 7 (.builtin "__import__"), en P ⟨#[97,98,115]⟩ 8 (.builtin "abs"), en P ⟨#[97,108,108]⟩ 9 (.builtin "all"), en P ⟨#[97,110,121]⟩ 10 (.builtin "any"), en P ⟨#[97,115,99,105,105]⟩ 11 (.builtin "ascii"), en P ⟨#[98,105,110]⟩ 12 (.builtin "bin"), en P ⟨#[98,114,101,97,107,112,111,105,110,116]⟩ 13 (.builtin "breakpoint"), en P ⟨#[99,97,108,108,97,98,108,101]⟩ 14 (.builtin "callable"), en P ⟨#[99,104,114]⟩ 15 (.builtin "chr"), en P ⟨#[99,111,109,112,105,108,101]⟩ 16 (.builtin "compile"), en P ⟨#[100,101,108,97,116,116,114]⟩ 17 (.builtin "delattr"), en P ⟨#[100,105,114]⟩ 18 (.builtin "dir"), en P ⟨#[100,105,118,109,111,100]⟩ 19 (.builtin "divmod"), en P ⟨#[101,118,97,108]⟩ 20 (.builtin "eval"), en P ⟨#[101,120,101,99]⟩ 21 (.builtin "exec"), en P ⟨#[102,111,114,109,97,116]⟩ 22 (.builtin "format"), en P ⟨#[103,101,116,97,116,116,114]⟩ 23 (.builtin "getattr"), en P ⟨#[103,108,111,98,97,108,115]⟩ 24 (.builtin "globals"), en P ⟨#[104,97,115,97,116,116,114]⟩ 25 (.builtin "hasattr"), en P ⟨#[104,97,115,104]⟩ 26 (.builtin "hash"), en P ⟨#[104,101,120]⟩ 27 (.builtin "hex"), en P ⟨#[105,100]⟩ 28 (.builtin "id"), en P ⟨#[105,110,112,117,116]⟩ 29 (.builtin "input"), en P ⟨#[105,115,105,110,115,116,97,110,99,101]⟩ 30 (.builtin "isinstance"), en P ⟨#[105,115,115,117,98,99,108,97,115,115]⟩ 31 (.builtin "issubclass"), en P ⟨#[105,116,101,114]⟩ 32 (.builtin "iter"), en P ⟨#[97,105,116,101,114]⟩ 33 (.builtin "aiter"), en P ⟨#[108,101,110]⟩ 34 (.builtin "len"), en P ⟨#[108,111,99,97,108,115]⟩ 35 (.builtin "locals"), en P ⟨#[109,97,120]⟩ 36 (.builtin "max"), en P ⟨#[109,105,110]⟩ 37 (.builtin "min"), en P ⟨#[110,101,120,116]⟩ 38 (.builtin "next"), en P ⟨#[97,110,101,120,116]⟩ 39 (.builtin "anext"), en P ⟨#[111,99,116]⟩ 40 (.builtin "oct"), en P ⟨#[111,114,100]⟩ 41 (.builtin "ord"), en P ⟨#[112,111,119]⟩ 42 (.builtin "pow"), en P ⟨#[112,114,105,110,116]⟩ 43 (.builtin "print"), en P ⟨#[114,101,112,114]⟩ 44 (.builtin "repr"), en P ⟨#[114,111,117,110,100]⟩ 45 (.builtin "round"), en P ⟨#[115,101,116,97,116,116,114]⟩ 46 (.builtin "setattr"), en P ⟨#[115,111,114,116,101,100]⟩ 47 (.builtin "sorted"), en P ⟨#[115,117,109]⟩ 48 (.builtin "sum"), en P ⟨#[118,97,114,115]⟩ 49 (.builtin "vars"), en P ⟨#[78,111,110,101]⟩ 50 (.none), en P ⟨#[69,108,108,105,112,115,105,115]⟩ 51 (.ellipsis), en P ⟨#[78,111,116,73,109,112,108,101,109,101,110,116,101,100]⟩ 52 (.notImplemented), en P ⟨#[70,97,108,115,101]⟩ 53 (.bool false), en P ⟨#[84,114,117,101]⟩ 54 (.bool true), en P ⟨#[98,111,111,108]⟩ 55 (.type "bool"), en P ⟨#[109,101,109,111,114,121,118,105,101,119]⟩ 56 (.type "memoryview"), en P ⟨#[98,121,116,101,97,114,114,97,121]⟩ 57 (.type "bytearray"), en P ⟨#[98,121,116,101,115]⟩ 58 (.type "bytes"), en P ⟨#[99,108,97,115,115,109,101,116,104,111,100]⟩ 59 (.type "classmethod"), en P ⟨#[99,111,109,112,108,101,120]⟩ 60 (.type "complex"), en P ⟨#[100,105,99,116]⟩ 61 (.type "dict"), en P ⟨#[101,110,117,109,101,114,97,116,101]⟩ 62 (.type "enumerate"), en P ⟨#[102,105,108,116,101,114]⟩ 63 (.type "filter"), en P ⟨#[102,108,111,97,116]⟩ 64 (.type "float"), en P ⟨#[102,114,111,122,101,110,115,101,116]⟩ 65 (.type "frozenset"), en P ⟨#[112,114,111,112,101,114,116,121]⟩ 66 (.type "property"), en P ⟨#[105,110,116]⟩ 67 (.type "int"), en P ⟨#[108,105,115,116]⟩ 68 (.type "list"), en P ⟨#[109,97,112]⟩ 69 (.type "map"), en P ⟨#[111,98,106,101,99,116]⟩ 70 (.type "object"), en P ⟨#[114,97,110,103,101]⟩ 71 (.type "range"), en P ⟨#[114,101,118,101,114,115,101,100]⟩ 72 (.type "reversed"), en P ⟨#[115,101,116]⟩ 73 (.type "set"), en P ⟨#[115,108,105,99,101]⟩ 74 (.type "slice"), en P ⟨#[115,116,97,116,105,99,109,101,116,104,111,100]⟩ 75 (.type "staticmethod"), en P ⟨#[115,116,114]⟩ 76 (.type "str"), en P ⟨#[115,117,112,101,114]⟩ 77 (.type "super"), en P ⟨#[116,117,112,108,101]⟩ 78 (.type "tuple"), en P ⟨#[116,121,112,101]⟩ 79 (.type "type"), en P ⟨#[122,105,112]⟩ 80 (.type "zip"), en P ⟨#[95,95,100,101,98,117,103,95,95]⟩ 81 (.bool true), en P ⟨#[66,97,115,101,69,120,99,101,112,116,105,111,110]⟩ 82 (.type "BaseException"), en P ⟨#[66,97,115,101,69,120,99,101,112,116,105,111,110,71,114,111,117,112]⟩ 83 (.type "BaseExceptionGroup"), en P ⟨#[69,120,99,101,112,116,105,111,110]⟩ 84 (.type "Exception"), en P ⟨#[71,101,110,101,114,97,116,111,114,69,120,105,116]⟩ 85 (.type "GeneratorExit"), en P ⟨#[75,101,121,98,111,97,114,100,73,110,116,101,114,114,117,112,116]⟩ 86 (.type "KeyboardInterrupt"), en P ⟨#[83,121,115,116,101,109,69,120,105,116]⟩ 87 (.type "SystemExit"), en P ⟨#[65,114,105,116,104,109,101,116,105,99,69,114,114,111,114]⟩ 88 (.type "ArithmeticError"), en P ⟨#[65,115,115,101,114,116,105,111,110,69,114,114,111,114]⟩ 89 (.type "AssertionError"), en P ⟨#[65,116,116,114,105,98,117,116,101,69,114,114,111,114]⟩ 90 (.type "AttributeError"), en P ⟨#[66,117,102,102,101,114,69,114,114,111,114]⟩ 91 (.type "BufferError"), en P ⟨#[69,79,70,69,114,114,111,114]⟩ 92 (.type "EOFError"), en P ⟨#[73,109,112,111,114,116,69,114,114,111,114]⟩ 93 (.type "ImportError"), en P ⟨#[76,111,111,107,117,112,69,114,114,111,114]⟩ 94 (.type "LookupError"), en P ⟨#[77,101,109,111,114,121,69,114,114,111,114]⟩ 95 (.type "MemoryError"), en P ⟨#[78,97,109,101,69,114,114,111,114]⟩ 96 (.type "NameError"), en P ⟨#[79,83,69,114,114,111,114]⟩ 97 (.type "OSError"), en P ⟨#[82,101,102,101,114,101,110,99,101,69,114,114,111,114]⟩ 98 (.type "ReferenceError"), en P ⟨#[82,117,110,116,105,109,101,69,114,114,111,114]⟩ 99 (.type "RuntimeError"), en P ⟨#[83,116,111,112,65,115,121,110,99,73,116,101,114,97,116,105,111,110]⟩ 100 (.type "StopAsyncIteration"), en P ⟨#[83,116,111,112,73,116,101,114,97,116,105,111,110]⟩ 101 (.type "StopIteration"), en P ⟨#[83,121,110,116,97,120,69,114,114,111,114]⟩ 102 (.type "SyntaxError"), en P ⟨#[83,121,115,116,101,109,69,114,114,111,114]⟩ 103 (.type "SystemError"), en P ⟨#[84,121,112,101,69,114,114,111,114]⟩ 104 (.type "TypeError"), en P ⟨#[86,97,108,117,101,69,114,114,111,114]⟩ 105 (.type "ValueError"), en P ⟨#[87,97,114,110,105,110,103]⟩ 106 (.type "Warning"), en P ⟨#[70,108,111,97,116,105,110,103,80,111,105,110,116,69,114,114,111,114]⟩ 107 (.type "FloatingPointError"), en P ⟨#[79,118,101,114,102,108,111,119,69,114,114,111,114]⟩ 108 (.type "OverflowError"), en P ⟨#[90,101,114,111,68,105,118,105,115,105,111,110,69,114,114,111,114]⟩ 109 (.type "ZeroDivisionError"), en P ⟨#[66,121,116,101,115,87,97,114,110,105,110,103]⟩ 110 (.type "BytesWarning"), en P ⟨#[68,101,112,114,101,99,97,116,105,111,110,87,97,114,110,105,110,103]⟩ 111 (.type "DeprecationWarning"), en P ⟨#[69,110,99,111,100,105,110,103,87,97,114,110,105,110,103]⟩ 112 (.type "EncodingWarning"), en P ⟨#[70,117,116,117,114,101,87,97,114,110,105,110,103]⟩ 113 (.type "FutureWarning"), en P ⟨#[73,109,112,111,114,116,87,97,114,110,105,110,103]⟩ 114 (.type "ImportWarning"), en P ⟨#[80,101,110,100,105,110,103,68,101,112,114,101,99,97,116,105,111,110,87,97,114,110,105,110,103]⟩ 115 (.type "PendingDeprecationWarning"), en P ⟨#[82,101,115,111,117,114,99,101,87,97,114,110,105,110,103]⟩ 116 (.type "ResourceWarning"), en P ⟨#[82,117,110,116,105,109,101,87,97,114,110,105,110,103]⟩ 117 (.type "RuntimeWarning"), en P ⟨#[83,121,110,116,97,120,87,97,114,110,105,110,103]⟩ 118 (.type "SyntaxWarning"), en P ⟨#[85,110,105,99,111,100,101,87,97,114,110,105,110,103]⟩ 119 (.type "UnicodeWarning"), en P ⟨#[85,115,101,114,87,97,114,110,105,110,103]⟩ 120 (.type "UserWarning"), en P ⟨#[66,108,111,99,107,105,110,103,73,79,69,114,114,111,114]⟩ 121 (.type "BlockingIOError"), en P ⟨#[67,104,105,108,100,80,114,111,99,101,115,115,69,114,114,111,114]⟩ 122 (.type "ChildProcessError"), en P ⟨#[67,111,110,110,101,99,116,105,111,110,69,114,114,111,114]⟩ 123 (.type "ConnectionError"), en P ⟨#[70,105,108,101,69,120,105,115,116,115,69,114,114,111,114]⟩ 124 (.type "FileExistsError"), en P ⟨#[70,105,108,101,78,111,116,70,111,117,110,100,69,114,114,111,114]⟩ 125 (.type "FileNotFoundError"), en P ⟨#[73,110,116,101,114,114,117,112,116,101,100,69,114,114,111,114]⟩ 126 (.type "InterruptedError"), en P ⟨#[73,115,65,68,105,114,101,99,116,111,114,121,69,114,114,111,114]⟩ 127 (.type "IsADirectoryError"), en P ⟨#[78,111,116,65,68,105,114,101,99,116,111,114,121,69,114,114,111,114]⟩ 128 (.type "NotADirectoryError"), en P ⟨#[80,101,114,109,105,115,115,105,111,110,69,114,114,111,114]⟩ 129 (.type "PermissionError"), en P ⟨#[80,114,111,99,101,115,115,76,111,111,107,117,112,69,114,114,111,114]⟩ 130 (.type "ProcessLookupError"), en P ⟨#[84,105,109,101,111,117,116,69,114,114,111,114]⟩ 131 (.type "TimeoutError"), en P ⟨#[73,110,100,101,110,116,97,116,105,111,110,69,114,114,111,114]⟩ 132 (.type "IndentationError"), en P ⟨#[95,73,110,99,111,109,112,108,101,116,101,73,110,112,117,116,69,114,114,111,114]⟩ 133 (.type "_IncompleteInputError"), en P ⟨#[73,110,100,101,120,69,114,114,111,114]⟩ 134 (.type "IndexError"), en P ⟨#[75,101,121,69,114,114,111,114]⟩ 135 (.type "KeyError"), en P ⟨#[77,111,100,117,108,101,78,111,116,70,111,117,110,100,69,114,114,111,114]⟩ 136 (.type "ModuleNotFoundError"), en P ⟨#[78,111,116,73,109,112,108,101,109,101,110,116,101,100,69,114,114,111,114]⟩ 137 (.type "NotImplementedError"), en P ⟨#[80,121,116,104,111,110,70,105,110,97,108,105,122,97,116,105,111,110,69,114,114,111,114]⟩ 138 (.type "PythonFinalizationError"), en P ⟨#[82,101,99,117,114,115,105,111,110,69,114,114,111,114]⟩ 139 (.type "RecursionError"), en P ⟨#[85,110,98,111,117,110,100,76,111,99,97,108,69,114,114,111,114]⟩ 140 (.type "UnboundLocalError"), en P ⟨#[85,110,105,99,111,100,101,69,114,114,111,114]⟩ 141 (.type "UnicodeError"), en P ⟨#[66,114,111,107,101,110,80,105,112,101,69,114,114,111,114]⟩ 142 (.type "BrokenPipeError"), en P ⟨#[67,111,110,110,101,99,116,105,111,110,65,98,111,114,116,101,100,69,114,114,111,114]⟩ 143 (.type "ConnectionAbortedError"), en P ⟨#[67,111,110,110,101,99,116,105,111,110,82,101,102,117,115,101,100,69,114,114,111,114]⟩ 144 (.type "ConnectionRefusedError"), en P ⟨#[67,111,110,110,101,99,116,105,111,110,82,101,115,101,116,69,114,114,111,114]⟩ 145 (.type "ConnectionResetError"), en P ⟨#[84,97,98,69,114,114,111,114]⟩ 146 (.type "TabError"), en P ⟨#[85,110,105,99,111,100,101,68,101,99,111,100,101,69,114,114,111,114]⟩ 147 (.type "UnicodeDecodeError"), en P ⟨#[85,110,105,99,111,100,101,69,110,99,111,100,101,69,114,114,111,114]⟩ 148 (.type "UnicodeEncodeError"), en P ⟨#[85,110,105,99,111,100,101,84,114,97,110,115,108,97,116,101,69,114,114,111,114]⟩ 149 (.type "UnicodeTranslateError"), en P ⟨#[69,120,99,101,112,116,105,111,110,71,114,111,117,112]⟩ 150 (.type "ExceptionGroup"), en P ⟨#[69,110,118,105,114,111,110,109,101,110,116,69,114,114,111,114]⟩ 151 (.type "OSError"), en P ⟨#[73,79,69,114,114,111,114]⟩ 152 (.type "OSError"), en P ⟨#[111,112,101,110]⟩ 153 (.builtin "open"), en P ⟨#[113,117,105,116]⟩ 154 (.builtin "builtins.quit#opaque"), en P ⟨#[101,120,105,116]⟩ 155 (.builtin "builtins.exit#opaque"), en P ⟨#[99,111,112,121,114,105,103,104,116]⟩ 156 (.builtin "builtins.copyright#opaque"), en P ⟨#[99,114,101,100,105,116,115]⟩ 157 (.builtin "builtins.credits#opaque"), en P ⟨#[108,105,99,101,110,115,101]⟩ 158 (.builtin "builtins.license#opaque"), en P ⟨#[104,101,108,112]⟩ 159 (.builtin "builtins.help#opaque")] 159, #[]⟩
noncomputable def o2 (P : Params) : Obj := ⟨.none, none, .dict #[en P ⟨#[105,109,112,111,114,116,46,108,111,97,100,101,100,46,95,115,114,101]⟩ 183 (.bool true), en P ⟨#[99,108,97,115,115,46,95,102,114,111,122,101,110,95,105,109,112,111,114,116,108,105,98,46,66,117,105,108,116,105,110,73,109,112,111,114,116,101,114]⟩ 185 (.ref 14), en P ⟨#[119,97,116,99,104,101,100,46,105,109,112,111,114,116]⟩ 206 (.ref 18), en P ⟨#[99,108,97,115,115,46,95,102,114,111,122,101,110,95,105,109,112,111,114,116,108,105,98,46,77,111,100,117,108,101,83,112,101,99]⟩ 216 (.ref 22), en P ⟨#[115,121,115,46,109,111,100,117,108,101,115,46,98,111,111,107,101,100,45,101,112,111,99,104]⟩ 245 (.int (4) 0), en P ⟨#[105,109,112,111,114,116,46,108,97,116,101,114,45,108,97,105,100,46,95,115,114,101]⟩ 270 (.bool true), en P ⟨#[119,97,116,99,104,101,100,46,108,105,98,114,97,114,121]⟩ 272 (.ref 27), en P ⟨#[119,97,116,99,104,101,100,46,108,105,98,114,97,114,121,45,111,98,106,101,99,116,115]⟩ 0 (.str ⟨#[12,30]⟩ 0), en P ⟨#[119,97,116,99,104,101,100,46,108,105,98,114,97,114,121,45,100,101,101,112,46,95,115,114,101]⟩ 273 (.str ⟨#[4,0,0,11,4,0,0,11,4,0,0,3,4,0,0,11,8,4,100,105,99,116,2]⟩ 0), en P ⟨#[105,109,112,111,114,116,46,108,111,97,100,101,100,46,95,99,111,108,108,101,99,116,105,111,110,115]⟩ 280 (.bool true), en P ⟨#[115,121,115,46,109,111,100,117,108,101,115,46,108,97,110,100,101,100,46,95,99,111,108,108,101,99,116,105,111,110,115]⟩ 294 (.bool true), en P ⟨#[105,109,112,111,114,116,46,108,97,116,101,114,45,108,97,105,100,46,95,99,111,108,108,101,99,116,105,111,110,115]⟩ 309 (.bool true), en P ⟨#[119,97,116,99,104,101,100,46,108,105,98,114,97,114,121,45,100,101,101,112,46,95,99,111,108,108,101,99,116,105,111,110,115]⟩ 311 (.str ⟨#[4,0,0,29,4,0,0,29,4,0,0,3,4,0,0,29,8,4,100,105,99,116,2]⟩ 0), en P ⟨#[116,121,112,101,46,95,95,115,117,98,99,108,97,115,115,101,115,95,95,46,79,83,69,114,114,111,114,46,48]⟩ 453 (.int (86) 0), en P ⟨#[116,121,112,101,46,95,95,115,117,98,99,108,97,115,115,101,115,95,95,46,79,83,69,114,114,111,114,46,110]⟩ 454 (.int (1) 0)] 15, #[]⟩
noncomputable def o3 (P : Params) : Obj := ⟨.type "dict", none, .dict #[en P ⟨#[95,95,110,97,109,101,95,95]⟩ 165 (.str ⟨#[108,97,119,95,109,113,48,51,56,52,95,48,49]⟩ 1292), en P ⟨#[95,95,100,111,99,95,95]⟩ 166 (.none), en P ⟨#[95,95,112,97,99,107,97,103,101,95,95]⟩ 167 (.none), en P ⟨#[95,95,108,111,97,100,101,114,95,95]⟩ 168 (.builtin "__main__.__loader__#opaque"), en P ⟨#[95,95,115,112,101,99,95,95]⟩ 169 (.none), en P ⟨#[95,95,97,110,110,111,116,97,116,105,111,110,115,95,95]⟩ 170 (.ref 6), en P ⟨#[95,95,98,117,105,108,116,105,110,115,95,95]⟩ 171 (.ref 4), en P ⟨#[95,95,102,105,108,101,95,95]⟩ 173 (.str ⟨#[47,99,108,97,105,109,47,99,117,116,46,112,121]⟩ 172), en P ⟨#[95,95,99,97,99,104,101,100,95,95]⟩ 174 (.none), en P ⟨#[95,115,114,101]⟩ 275 (.ref 12), en P ⟨#[100,101,113,117,101]⟩ 317 (.type "collections.deque"), en P ⟨#[95,119,97,108,108]⟩ 330 (.ref 44), en P ⟨#[116,115,112,101,99,105,97,108,115]⟩ 366 (.ref 49), en P ⟨#[95,102,111,114,109,97,116,112,97,114,97,109]⟩ 376 (.ref 57), en P ⟨#[95,116,119,105,110,95,114,101,95,49]⟩ 416 (.ref 62), en P ⟨#[95,119,104,101,110,99,101]⟩ 426 (.ref 69), en P ⟨#[95,105,110,100,101,120]⟩ 434 (.ref 76), en P ⟨#[85,110,115,117,112,112,111,114,116,101,100,79,112,101,114,97,116,105,111,110]⟩ 456 (.ref 86), en P ⟨#[73,79,66,97,115,101]⟩ 488 (.ref 106), en P ⟨#[66,117,102,102,101,114,101,100,73,79,66,97,115,101]⟩ 506 (.ref 121), en P ⟨#[84,101,120,116,73,79,66,97,115,101]⟩ 524 (.ref 133), en P ⟨#[66,121,116,101,115,73,79]⟩ 786 (.ref 363), en P ⟨#[83,116,114,105,110,103,73,79]⟩ 1073 (.ref 610), en P ⟨#[95,107,105,110,100]⟩ 1084 (.ref 619), en P ⟨#[95,102,115,112,97,116,104]⟩ 1093 (.ref 626), en P ⟨#[95,99,104,101,99,107,95,97,114,103,95,116,121,112,101,115]⟩ 1103 (.ref 633), en P ⟨#[105,115,97,98,115]⟩ 1110 (.ref 640), en P ⟨#[106,111,105,110]⟩ 1121 (.ref 647), en P ⟨#[100,105,114,110,97,109,101]⟩ 1131 (.ref 654), en P ⟨#[115,104,108,101,120]⟩ 1272 (.ref 745), en P ⟨#[115,112,108,105,116]⟩ 1282 (.ref 757), en P ⟨#[95,102,105,110,100,95,117,110,115,97,102,101]⟩ 1284 (.ref 758), en P ⟨#[113,117,111,116,101]⟩ 1291 (.ref 765), en P ⟨#[95,108,97,119,95,112,105,101,99,101,115]⟩ 1304 (.ref 772), en P ⟨#[95,108,97,119,95,98,97,114,101]⟩ 1310 (.ref 777), en P ⟨#[95,108,97,119,95,100,117,101]⟩ 1316 (.ref 782), en P ⟨#[95,108,97,119,95,114,101,97,100]⟩ 1325 (.ref 789), en P ⟨#[108,97,119]⟩ 1338 (.ref 796)] 38, #[]⟩
noncomputable def o48 (P : Params) : Obj := ⟨.type "tuple", none, .seq #[.int (14) 0,.int (14) 0,.int (4) 0,.int (1) 0,.int (1) 0,.int (9) 0,.int (0) 0,.int (4227896069) 0,.int (939524097) 0,.int (0) 0,.int (0) 0,.int (0) 0,.int (0) 0,.int (0) 0,.int (0) 0,.int (13) 0,.int (11) 0,.int (9) 0,.int (0) 0,.int (4227896069) 0,.int (939524097) 0,.int (0) 0,.int (0) 0,.int (0) 0,.int (0) 0,.int (0) 0,.int (0) 0,.int (1) 0] 0, #[]⟩
noncomputable def o49 (P : Params) : Obj := ⟨.type "re.Pattern", none, .fields #[.str ⟨#[91,32,92,40,92,41,60,62,64,44,59,58,92,92,34,47,92,91,92,93,92,63,61,93]⟩ 334,.int (32) 365,.int (0) 0,.none, .none, .ref 48,.int (0) 0], #[]⟩
noncomputable def o50 (P : Params) : Obj := ⟨.type "tuple", none, .seq #[.none, .int (1) 367] 0, #[]⟩
noncomputable def o56 (P : Params) : Obj := ⟨.type "code", none, .fields #[.str ⟨#[95,102,111,114,109,97,116,112,97,114,97,109]⟩ 368,.str ⟨#[95,102,111,114,109,97,116,112,97,114,97,109]⟩ 369,.str ⟨#[47,99,108,97,105,109,47,99,117,116,46,112,121]⟩ 370,.int (8) 0,.int (3) 0,.int (0) 0,.int (0) 0,.int (3) 0,.ref 51,.bool true, .int (318) 0,.ref 52,.none, .ref 53,.ref 54,.ref 55,.int (374) 0,.int (8) 0,.str ⟨#[47,99,108,97,105,109,47,99,117,116,46,112,121]⟩ 375], #[]⟩
noncomputable def o57 (P : Params) : Obj := ⟨.type "function", none, .func (fnOf (topDef 5) ⟨#[95,102,111,114,109,97,116,112,97,114,97,109]⟩ ⟨#[95,102,111,114,109,97,116,112,97,114,97,109]⟩ 3 [] (.ref 50) (.none) (.none) (.str ⟨#[99,112,121,51,49,51,46,119,115,103,105,114,101,102,46,104,101,97,100,101,114,115]⟩ 331) (none) (.ref 56) (.none) 0), #[]⟩
noncomputable def o61 (P : Params) : Obj := ⟨.type "tuple", none, .seq #[.int (14) 0,.int (17) 0,.int (4) 0,.int (1) 0,.int (1) 0,.int (21) 0,.int (9) 0,.int (0) 0,.int (604043296) 0,.int (1) 0,.int (0) 0,.int (0) 0,.int (0) 0,.int (0) 0,.int (0) 0,.int (8) 0,.int (4) 0,.int (0) 0,.int (13) 0,.int (14) 0,.int (21) 0,.int (9) 0,.int (0) 0,.int (604043296) 0,.int (1) 0,.int (0) 0,.int (0) 0,.int (0) 0,.int (0) 0,.int (0) 0,.int (8) 0,.int (4) 0,.int (0) 0,.int (1) 0] 0, #[]⟩
noncomputable def o62 (P : Params) : Obj := ⟨.type "re.Pattern", none, .fields #[.str ⟨#[91,94,92,119,64,37,43,61,58,44,46,47,45,93]⟩ 378,.int (256) 415,.int (0) 0,.none, .none, .ref 61,.int (0) 0], #[]⟩
noncomputable def o75 (P : Params) : Obj := ⟨.type "code", none, .fields #[.str ⟨#[95,105,110,100,101,120]⟩ 427,.str ⟨#[95,105,110,100,101,120]⟩ 428,.str ⟨#[47,99,108,97,105,109,47,99,117,116,46,112,121]⟩ 429,.int (24) 0,.int (2) 0,.int (0) 0,.int (0) 0,.int (3) 0,.ref 70,.bool true, .int (318) 0,.ref 71,.none, .ref 72,.ref 73,.ref 74,.int (432) 0,.int (24) 0,.str ⟨#[47,99,108,97,105,109,47,99,117,116,46,112,121]⟩ 433], #[]⟩
noncomputable def o76 (P : Params) : Obj := ⟨.type "function", none, .func (fnOf (topDef 9) ⟨#[95,105,110,100,101,120]⟩ ⟨#[95,105,110,100,101,120]⟩ 3 [] (.none) (.none) (.none) (.str ⟨#[105,111]⟩ 417) (none) (.ref 75) (.none) 0), #[]⟩
noncomputable def o102 (P : Params) : Obj := ⟨.type "code", none, .fields #[.str ⟨#[95,95,110,101,119,95,95]⟩ 471,.str ⟨#[73,79,66,97,115,101,46,95,95,110,101,119,95,95]⟩ 472,.str ⟨#[47,99,108,97,105,109,47,99,117,116,46,112,121]⟩ 473,.int (36) 0,.int (1) 0,.int (1) 0,.int (0) 0,.int (15) 0,.ref 97,.bool true, .int (318) 0,.ref 98,.none, .ref 99,.ref 100,.ref 101,.int (477) 0,.int (36) 0,.str ⟨#[47,99,108,97,105,109,47,99,117,116,46,112,121]⟩ 478], #[]⟩
noncomputable def o103 (P : Params) : Obj := ⟨.type "function", none, .func (fnOf (clsDef 11 1) ⟨#[95,95,110,101,119,95,95]⟩ ⟨#[73,79,66,97,115,101,46,95,95,110,101,119,95,95]⟩ 3 [] (.none) (.none) (.none) (.str ⟨#[105,111]⟩ 417) (none) (.ref 102) (.none) 0), #[]⟩
noncomputable def o105 (P : Params) : Obj := ⟨.type "dict", none, .dict #[en P ⟨#[95,95,109,111,100,117,108,101,95,95]⟩ 464 (.str ⟨#[105,111]⟩ 469), en P ⟨#[95,95,102,105,114,115,116,108,105,110,101,110,111,95,95]⟩ 468 (.int (33) 467), en P ⟨#[95,95,110,101,119,95,95]⟩ 479 (.ref 107), en P ⟨#[95,95,115,116,97,116,105,99,95,97,116,116,114,105,98,117,116,101,115,95,95]⟩ 480 (.ref 104), en P ⟨#[95,95,100,105,99,116,95,95]⟩ 483 (.ref 108), en P ⟨#[95,95,119,101,97,107,114,101,102,95,95]⟩ 485 (.ref 109), en P ⟨#[95,95,100,111,99,95,95]⟩ 486 (.none)] 4, #[]⟩
noncomputable def o106 (P : Params) : Obj := ⟨.type "type", none, .cls ⟨⟨#[73,79,66,97,115,101]⟩, [.type "object"], [.ref 106,.type "object"], 105,⟨#[73,79,66,97,115,101]⟩, true, [], [.ref 121,.ref 133], false, none, false⟩, #[none, none, some (.str ⟨#[73,79,66,97,115,101]⟩ 457), some (.str ⟨#[73,79,66,97,115,101]⟩ 465), some (.none), some (.bool true)]⟩
noncomputable def o107 (P : Params) : Obj := ⟨.type "staticmethod", none, .fields #[.ref 103], #[]⟩
noncomputable def o132 (P : Params) : Obj := ⟨.type "dict", none, .dict #[en P ⟨#[95,95,109,111,100,117,108,101,95,95]⟩ 514 (.str ⟨#[105,111]⟩ 519), en P ⟨#[95,95,102,105,114,115,116,108,105,110,101,110,111,95,95]⟩ 518 (.int (42) 517), en P ⟨#[95,95,115,116,97,116,105,99,95,97,116,116,114,105,98,117,116,101,115,95,95]⟩ 521 (.ref 131), en P ⟨#[95,95,100,111,99,95,95]⟩ 522 (.none)] 2, #[]⟩
noncomputable def o133 (P : Params) : Obj := ⟨.type "type", none, .cls ⟨⟨#[84,101,120,116,73,79,66,97,115,101]⟩, [.ref 106], [.ref 133,.ref 106,.type "object"], 132,⟨#[84,101,120,116,73,79,66,97,115,101]⟩, true, [], [.ref 610], false, none, false⟩, #[some (.ref 124), none, some (.str ⟨#[84,101,120,116,73,79,66,97,115,101]⟩ 507), some (.str ⟨#[84,101,120,116,73,79,66,97,115,101]⟩ 515), some (.none), some (.bool true)]⟩
noncomputable def o363 (P : Params) : Obj := ⟨.type "type", none, .cls ⟨⟨#[66,121,116,101,115,73,79]⟩, [.ref 121], [.ref 363,.ref 121,.ref 106,.type "object"], 362,⟨#[66,121,116,101,115,73,79]⟩, true, [], [], false, none, false⟩, #[some (.ref 136), none, some (.str ⟨#[66,121,116,101,115,73,79]⟩ 525), some (.str ⟨#[66,121,116,101,115,73,79]⟩ 533), some (.none), some (.bool true)]⟩
noncomputable def o373 (P : Params) : Obj := ⟨.type "tuple", none, .seq #[.str ⟨#[]⟩ 801,.str ⟨#[10]⟩ 802] 0, #[]⟩
noncomputable def o379 (P : Params) : Obj := ⟨.type "code", none, .fields #[.str ⟨#[95,95,105,110,105,116,95,95]⟩ 803,.str ⟨#[83,116,114,105,110,103,73,79,46,95,95,105,110,105,116,95,95]⟩ 804,.str ⟨#[47,99,108,97,105,109,47,99,117,116,46,112,121]⟩ 805,.int (217) 0,.int (3) 0,.int (0) 0,.int (0) 0,.int (3) 0,.ref 374,.bool true, .int (318) 0,.ref 375,.none, .ref 376,.ref 377,.ref 378,.int (809) 0,.int (217) 0,.str ⟨#[47,99,108,97,105,109,47,99,117,116,46,112,121]⟩ 810], #[]⟩
noncomputable def o380 (P : Params) : Obj := ⟨.type "function", none, .func (fnOf (clsDef 15 1) ⟨#[95,95,105,110,105,116,95,95]⟩ ⟨#[83,116,114,105,110,103,73,79,46,95,95,105,110,105,116,95,95]⟩ 3 [] (.ref 373) (.none) (.none) (.str ⟨#[105,111]⟩ 417) (none) (.ref 379) (.none) 0), #[]⟩
noncomputable def o386 (P : Params) : Obj := ⟨.type "code", none, .fields #[.str ⟨#[95,95,116,114,97,110,115,108,97,116,101,100]⟩ 812,.str ⟨#[83,116,114,105,110,103,73,79,46,95,95,116,114,97,110,115,108,97,116,101,100]⟩ 813,.str ⟨#[47,99,108,97,105,109,47,99,117,116,46,112,121]⟩ 814,.int (230) 0,.int (2) 0,.int (0) 0,.int (0) 0,.int (3) 0,.ref 381,.bool true, .int (318) 0,.ref 382,.none, .ref 383,.ref 384,.ref 385,.int (818) 0,.int (230) 0,.str ⟨#[47,99,108,97,105,109,47,99,117,116,46,112,121]⟩ 819], #[]⟩
noncomputable def o387 (P : Params) : Obj := ⟨.type "function", none, .func (fnOf (clsDef 15 2) ⟨#[95,95,116,114,97,110,115,108,97,116,101,100]⟩ ⟨#[83,116,114,105,110,103,73,79,46,95,95,116,114,97,110,115,108,97,116,101,100]⟩ 3 [] (.none) (.none) (.none) (.str ⟨#[105,111]⟩ 417) (none) (.ref 386) (.none) 0), #[]⟩
noncomputable def o393 (P : Params) : Obj := ⟨.type "code", none, .fields #[.str ⟨#[95,95,99,104,101,99,107]⟩ 821,.str ⟨#[83,116,114,105,110,103,73,79,46,95,95,99,104,101,99,107]⟩ 822,.str ⟨#[47,99,108,97,105,109,47,99,117,116,46,112,121]⟩ 823,.int (238) 0,.int (1) 0,.int (0) 0,.int (0) 0,.int (3) 0,.ref 388,.bool true, .int (318) 0,.ref 389,.none, .ref 390,.ref 391,.ref 392,.int (825) 0,.int (238) 0,.str ⟨#[47,99,108,97,105,109,47,99,117,116,46,112,121]⟩ 826], #[]⟩
noncomputable def o394 (P : Params) : Obj := ⟨.type "function", none, .func (fnOf (clsDef 15 3) ⟨#[95,95,99,104,101,99,107]⟩ ⟨#[83,116,114,105,110,103,73,79,46,95,95,99,104,101,99,107]⟩ 3 [] (.none) (.none) (.none) (.str ⟨#[105,111]⟩ 417) (none) (.ref 393) (.none) 0), #[]⟩
noncomputable def o407 (P : Params) : Obj := ⟨.type "code", none, .fields #[.str ⟨#[95,95,108,105,110,101]⟩ 835,.str ⟨#[83,116,114,105,110,103,73,79,46,95,95,108,105,110,101]⟩ 836,.str ⟨#[47,99,108,97,105,109,47,99,117,116,46,112,121]⟩ 837,.int (246) 0,.int (2) 0,.int (0) 0,.int (0) 0,.int (3) 0,.ref 402,.bool true, .int (318) 0,.ref 403,.none, .ref 404,.ref 405,.ref 406,.int (847) 0,.int (246) 0,.str ⟨#[47,99,108,97,105,109,47,99,117,116,46,112,121]⟩ 848], #[]⟩
noncomputable def o408 (P : Params) : Obj := ⟨.type "function", none, .func (fnOf (clsDef 15 5) ⟨#[95,95,108,105,110,101]⟩ ⟨#[83,116,114,105,110,103,73,79,46,95,95,108,105,110,101]⟩ 3 [] (.none) (.none) (.none) (.str ⟨#[105,111]⟩ 417) (none) (.ref 407) (.none) 0), #[]⟩
noncomputable def o549 (P : Params) : Obj := ⟨.type "tuple", none, .seq #[.int (-1) 994] 0, #[]⟩
noncomputable def o555 (P : Params) : Obj := ⟨.type "code", none, .fields #[.str ⟨#[114,101,97,100]⟩ 995,.str ⟨#[83,116,114,105,110,103,73,79,46,114,101,97,100]⟩ 996,.str ⟨#[47,99,108,97,105,109,47,99,117,116,46,112,121]⟩ 997,.int (360) 0,.int (2) 0,.int (2) 0,.int (0) 0,.int (3) 0,.ref 550,.bool true, .int (318) 0,.ref 551,.none, .ref 552,.ref 553,.ref 554,.int (1002) 0,.int (360) 0,.str ⟨#[47,99,108,97,105,109,47,99,117,116,46,112,121]⟩ 1003], #[]⟩
noncomputable def o556 (P : Params) : Obj := ⟨.type "function", none, .func (fnOf (clsDef 15 25) ⟨#[114,101,97,100]⟩ ⟨#[83,116,114,105,110,103,73,79,46,114,101,97,100]⟩ 3 [] (.ref 549) (.none) (.none) (.str ⟨#[105,111]⟩ 417) (none) (.ref 555) (.none) 0), #[]⟩
noncomputable def o557 (P : Params) : Obj := ⟨.type "tuple", none, .seq #[.int (-1) 1006] 0, #[]⟩
noncomputable def o563 (P : Params) : Obj := ⟨.type "code", none, .fields #[.str ⟨#[114,101,97,100,108,105,110,101]⟩ 1007,.str ⟨#[83,116,114,105,110,103,73,79,46,114,101,97,100,108,105,110,101]⟩ 1008,.str ⟨#[47,99,108,97,105,109,47,99,117,116,46,112,121]⟩ 1009,.int (374) 0,.int (2) 0,.int (2) 0,.int (0) 0,.int (3) 0,.ref 558,.bool true, .int (318) 0,.ref 559,.none, .ref 560,.ref 561,.ref 562,.int (1012) 0,.int (374) 0,.str ⟨#[47,99,108,97,105,109,47,99,117,116,46,112,121]⟩ 1013], #[]⟩
noncomputable def o564 (P : Params) : Obj := ⟨.type "function", none, .func (fnOf (clsDef 15 26) ⟨#[114,101,97,100,108,105,110,101]⟩ ⟨#[83,116,114,105,110,103,73,79,46,114,101,97,100,108,105,110,101]⟩ 3 [] (.ref 557) (.none) (.none) (.str ⟨#[105,111]⟩ 417) (none) (.ref 563) (.none) 0), #[]⟩
noncomputable def o609 (P : Params) : Obj := ⟨.type "dict", none, .dict #[en P ⟨#[95,95,109,111,100,117,108,101,95,95]⟩ 794 (.str ⟨#[95,105,111]⟩ 799), en P ⟨#[95,95,102,105,114,115,116,108,105,110,101,110,111,95,95]⟩ 798 (.int (214) 797), en P ⟨#[95,95,105,110,105,116,95,95]⟩ 811 (.ref 380), en P ⟨#[95,83,116,114,105,110,103,73,79,95,95,116,114,97,110,115,108,97,116,101,100]⟩ 820 (.ref 387), en P ⟨#[95,83,116,114,105,110,103,73,79,95,95,99,104,101,99,107]⟩ 827 (.ref 394), en P ⟨#[95,83,116,114,105,110,103,73,79,95,95,99,104,101,99,107,95,100,111,116]⟩ 834 (.ref 401), en P ⟨#[95,83,116,114,105,110,103,73,79,95,95,108,105,110,101]⟩ 849 (.ref 408), en P ⟨#[99,108,111,115,101,100]⟩ 857 (.ref 416), en P ⟨#[108,105,110,101,95,98,117,102,102,101,114,105,110,103]⟩ 865 (.ref 424), en P ⟨#[110,101,119,108,105,110,101,115]⟩ 873 (.ref 432), en P ⟨#[101,110,99,111,100,105,110,103]⟩ 881 (.ref 440), en P ⟨#[101,114,114,111,114,115]⟩ 889 (.ref 448), en P ⟨#[99,108,111,115,101]⟩ 896 (.ref 455), en P ⟨#[95,95,101,110,116,101,114,95,95]⟩ 903 (.ref 462), en P ⟨#[95,95,101,120,105,116,95,95]⟩ 911 (.ref 469), en P ⟨#[114,101,97,100,97,98,108,101]⟩ 918 (.ref 476), en P ⟨#[119,114,105,116,97,98,108,101]⟩ 925 (.ref 483), en P ⟨#[115,101,101,107,97,98,108,101]⟩ 932 (.ref 490), en P ⟨#[105,115,97,116,116,121]⟩ 939 (.ref 497), en P ⟨#[102,108,117,115,104]⟩ 946 (.ref 504), en P ⟨#[102,105,108,101,110,111]⟩ 953 (.ref 511), en P ⟨#[100,101,116,97,99,104]⟩ 960 (.ref 518), en P ⟨#[103,101,116,118,97,108,117,101]⟩ 967 (.ref 525), en P ⟨#[116,101,108,108]⟩ 974 (.ref 532), en P ⟨#[115,101,101,107]⟩ 984 (.ref 540), en P ⟨#[116,114,117,110,99,97,116,101]⟩ 992 (.ref 548), en P ⟨#[114,101,97,100]⟩ 1004 (.ref 556), en P ⟨#[114,101,97,100,108,105,110,101]⟩ 1014 (.ref 564), en P ⟨#[114,101,97,100,108,105,110,101,115]⟩ 1024 (.ref 572), en P ⟨#[95,95,105,116,101,114,95,95]⟩ 1031 (.ref 579), en P ⟨#[95,95,110,101,120,116,95,95]⟩ 1039 (.ref 586), en P ⟨#[119,114,105,116,101]⟩ 1051 (.ref 593), en P ⟨#[119,114,105,116,101,108,105,110,101,115]⟩ 1059 (.ref 600), en P ⟨#[95,95,114,101,112,114,95,95]⟩ 1066 (.ref 607), en P ⟨#[95,95,115,116,97,116,105,99,95,97,116,116,114,105,98,117,116,101,115,95,95]⟩ 1070 (.ref 608), en P ⟨#[95,95,100,111,99,95,95]⟩ 1071 (.none)] 2, #[]⟩
noncomputable def o610 (P : Params) : Obj := ⟨.type "type", none, .cls ⟨⟨#[83,116,114,105,110,103,73,79]⟩, [.ref 133], [.ref 610,.ref 133,.ref 106,.type "object"], 609,⟨#[83,116,114,105,110,103,73,79]⟩, true, [], [], false, none, false⟩, #[some (.ref 366), none, some (.str ⟨#[83,116,114,105,110,103,73,79]⟩ 787), some (.str ⟨#[83,116,114,105,110,103,73,79]⟩ 795), some (.none), some (.bool true)]⟩
noncomputable def o662 (P : Params) : Obj := ⟨.type "tuple", none, .seq #[.none, .none, .bool false, .bool false] 0, #[]⟩
noncomputable def o668 (P : Params) : Obj := ⟨.type "code", none, .fields #[.str ⟨#[95,95,105,110,105,116,95,95]⟩ 1146,.str ⟨#[115,104,108,101,120,46,95,95,105,110,105,116,95,95]⟩ 1147,.str ⟨#[47,99,108,97,105,109,47,99,117,116,46,112,121]⟩ 1148,.int (485) 0,.int (5) 0,.int (0) 0,.int (0) 0,.int (3) 0,.ref 663,.bool true, .int (318) 0,.ref 664,.none, .ref 665,.ref 666,.ref 667,.int (1155) 0,.int (485) 0,.str ⟨#[47,99,108,97,105,109,47,99,117,116,46,112,121]⟩ 1156], #[]⟩
noncomputable def o669 (P : Params) : Obj := ⟨.type "function", none, .func (fnOf (clsDef 24 0) ⟨#[95,95,105,110,105,116,95,95]⟩ ⟨#[115,104,108,101,120,46,95,95,105,110,105,116,95,95]⟩ 3 [] (.ref 662) (.none) (.none) (.str ⟨#[99,112,121,51,49,51,46,115,104,108,101,120]⟩ 1132) (none) (.ref 668) (.none) 0), #[]⟩
noncomputable def o675 (P : Params) : Obj := ⟨.type "code", none, .fields #[.str ⟨#[112,117,110,99,116,117,97,116,105,111,110,95,99,104,97,114,115]⟩ 1158,.str ⟨#[115,104,108,101,120,46,112,117,110,99,116,117,97,116,105,111,110,95,99,104,97,114,115]⟩ 1159,.str ⟨#[47,99,108,97,105,109,47,99,117,116,46,112,121]⟩ 1160,.int (526) 0,.int (1) 0,.int (0) 0,.int (0) 0,.int (3) 0,.ref 670,.bool true, .int (318) 0,.ref 671,.none, .ref 672,.ref 673,.ref 674,.int (1162) 0,.int (526) 0,.str ⟨#[47,99,108,97,105,109,47,99,117,116,46,112,121]⟩ 1163], #[]⟩
noncomputable def o676 (P : Params) : Obj := ⟨.type "function", none, .func (fnOf (clsDef 24 1) ⟨#[112,117,110,99,116,117,97,116,105,111,110,95,99,104,97,114,115]⟩ ⟨#[115,104,108,101,120,46,112,117,110,99,116,117,97,116,105,111,110,95,99,104,97,114,115]⟩ 3 [] (.none) (.none) (.none) (.str ⟨#[99,112,121,51,49,51,46,115,104,108,101,120]⟩ 1132) (none) (.ref 675) (.none) 0), #[]⟩
noncomputable def o677 (P : Params) : Obj := ⟨.type "property", none, .fields #[.ref 676,.none, .none, .none, .str ⟨#[112,117,110,99,116,117,97,116,105,111,110,95,99,104,97,114,115]⟩ 1165,.bool false], #[]⟩
noncomputable def o705 (P : Params) : Obj := ⟨.type "code", none, .fields #[.str ⟨#[103,101,116,95,116,111,107,101,110]⟩ 1190,.str ⟨#[115,104,108,101,120,46,103,101,116,95,116,111,107,101,110]⟩ 1191,.str ⟨#[47,99,108,97,105,109,47,99,117,116,46,112,121]⟩ 1192,.int (553) 0,.int (1) 0,.int (0) 0,.int (0) 0,.int (3) 0,.ref 700,.bool true, .int (318) 0,.ref 701,.none, .ref 702,.ref 703,.ref 704,.int (1199) 0,.int (553) 0,.str ⟨#[47,99,108,97,105,109,47,99,117,116,46,112,121]⟩ 1200], #[]⟩
noncomputable def o706 (P : Params) : Obj := ⟨.type "function", none, .func (fnOf (clsDef 24 5) ⟨#[103,101,116,95,116,111,107,101,110]⟩ ⟨#[115,104,108,101,120,46,103,101,116,95,116,111,107,101,110]⟩ 3 [] (.none) (.none) (.none) (.str ⟨#[99,112,121,51,49,51,46,115,104,108,101,120]⟩ 1132) (none) (.ref 705) (.none) 0), #[]⟩
noncomputable def o712 (P : Params) : Obj := ⟨.type "code", none, .fields #[.str ⟨#[114,101,97,100,95,116,111,107,101,110]⟩ 1202,.str ⟨#[115,104,108,101,120,46,114,101,97,100,95,116,111,107,101,110]⟩ 1203,.str ⟨#[47,99,108,97,105,109,47,99,117,116,46,112,121]⟩ 1204,.int (580) 0,.int (1) 0,.int (0) 0,.int (0) 0,.int (3) 0,.ref 707,.bool true, .int (318) 0,.ref 708,.none, .ref 709,.ref 710,.ref 711,.int (1210) 0,.int (580) 0,.str ⟨#[47,99,108,97,105,109,47,99,117,116,46,112,121]⟩ 1211], #[]⟩
noncomputable def o713 (P : Params) : Obj := ⟨.type "function", none, .func (fnOf (clsDef 24 6) ⟨#[114,101,97,100,95,116,111,107,101,110]⟩ ⟨#[115,104,108,101,120,46,114,101,97,100,95,116,111,107,101,110]⟩ 3 [] (.none) (.none) (.none) (.str ⟨#[99,112,121,51,49,51,46,115,104,108,101,120]⟩ 1132) (none) (.ref 712) (.none) 0), #[]⟩
noncomputable def o734 (P : Params) : Obj := ⟨.type "code", none, .fields #[.str ⟨#[95,95,105,116,101,114,95,95]⟩ 1230,.str ⟨#[115,104,108,101,120,46,95,95,105,116,101,114,95,95]⟩ 1231,.str ⟨#[47,99,108,97,105,109,47,99,117,116,46,112,121]⟩ 1232,.int (727) 0,.int (1) 0,.int (0) 0,.int (0) 0,.int (3) 0,.ref 729,.bool true, .int (318) 0,.ref 730,.none, .ref 731,.ref 732,.ref 733,.int (1234) 0,.int (727) 0,.str ⟨#[47,99,108,97,105,109,47,99,117,116,46,112,121]⟩ 1235], #[]⟩
noncomputable def o735 (P : Params) : Obj := ⟨.type "function", none, .func (fnOf (clsDef 24 9) ⟨#[95,95,105,116,101,114,95,95]⟩ ⟨#[115,104,108,101,120,46,95,95,105,116,101,114,95,95]⟩ 3 [] (.none) (.none) (.none) (.str ⟨#[99,112,121,51,49,51,46,115,104,108,101,120]⟩ 1132) (none) (.ref 734) (.none) 0), #[]⟩
noncomputable def o741 (P : Params) : Obj := ⟨.type "code", none, .fields #[.str ⟨#[95,95,110,101,120,116,95,95]⟩ 1237,.str ⟨#[115,104,108,101,120,46,95,95,110,101,120,116,95,95]⟩ 1238,.str ⟨#[47,99,108,97,105,109,47,99,117,116,46,112,121]⟩ 1239,.int (730) 0,.int (1) 0,.int (0) 0,.int (0) 0,.int (3) 0,.ref 736,.bool true, .int (318) 0,.ref 737,.none, .ref 738,.ref 739,.ref 740,.int (1242) 0,.int (730) 0,.str ⟨#[47,99,108,97,105,109,47,99,117,116,46,112,121]⟩ 1243], #[]⟩
noncomputable def o742 (P : Params) : Obj := ⟨.type "function", none, .func (fnOf (clsDef 24 10) ⟨#[95,95,110,101,120,116,95,95]⟩ ⟨#[115,104,108,101,120,46,95,95,110,101,120,116,95,95]⟩ 3 [] (.none) (.none) (.none) (.str ⟨#[99,112,121,51,49,51,46,115,104,108,101,120]⟩ 1132) (none) (.ref 741) (.none) 0), #[]⟩
noncomputable def o744 (P : Params) : Obj := ⟨.type "dict", none, .dict #[en P ⟨#[95,95,109,111,100,117,108,101,95,95]⟩ 1141 (.str ⟨#[99,112,121,51,49,51,46,115,104,108,101,120]⟩ 1132), en P ⟨#[95,95,102,105,114,115,116,108,105,110,101,110,111,95,95]⟩ 1145 (.int (483) 1144), en P ⟨#[95,95,105,110,105,116,95,95]⟩ 1157 (.ref 669), en P ⟨#[112,117,110,99,116,117,97,116,105,111,110,95,99,104,97,114,115]⟩ 1165 (.ref 677), en P ⟨#[112,117,115,104,95,116,111,107,101,110]⟩ 1173 (.ref 684), en P ⟨#[112,117,115,104,95,115,111,117,114,99,101]⟩ 1182 (.ref 692), en P ⟨#[112,111,112,95,115,111,117,114,99,101]⟩ 1189 (.ref 699), en P ⟨#[103,101,116,95,116,111,107,101,110]⟩ 1201 (.ref 706), en P ⟨#[114,101,97,100,95,116,111,107,101,110]⟩ 1212 (.ref 713), en P ⟨#[115,111,117,114,99,101,104,111,111,107]⟩ 1220 (.ref 720), en P ⟨#[101,114,114,111,114,95,108,101,97,100,101,114]⟩ 1229 (.ref 728), en P ⟨#[95,95,105,116,101,114,95,95]⟩ 1236 (.ref 735), en P ⟨#[95,95,110,101,120,116,95,95]⟩ 1244 (.ref 742), en P ⟨#[95,95,115,116,97,116,105,99,95,97,116,116,114,105,98,117,116,101,115,95,95]⟩ 1265 (.ref 743), en P ⟨#[95,95,100,105,99,116,95,95]⟩ 1267 (.ref 746), en P ⟨#[95,95,119,101,97,107,114,101,102,95,95]⟩ 1269 (.ref 747), en P ⟨#[95,95,100,111,99,95,95]⟩ 1270 (.none)] 4, #[]⟩
noncomputable def o745 (P : Params) : Obj := ⟨.type "type", none, .cls ⟨⟨#[115,104,108,101,120]⟩, [.type "object"], [.ref 745,.type "object"], 744,⟨#[115,104,108,101,120]⟩, true, [], [], false, none, false⟩, #[none, none, some (.str ⟨#[115,104,108,101,120]⟩ 1134), some (.str ⟨#[115,104,108,101,120]⟩ 1142), some (.builtin "object.__new__"), some (.bool true)]⟩
noncomputable def o750 (P : Params) : Obj := ⟨.type "tuple", none, .seq #[.bool false, .bool true] 0, #[]⟩
noncomputable def o756 (P : Params) : Obj := ⟨.type "code", none, .fields #[.str ⟨#[115,112,108,105,116]⟩ 1273,.str ⟨#[115,112,108,105,116]⟩ 1274,.str ⟨#[47,99,108,97,105,109,47,99,117,116,46,112,121]⟩ 1275,.int (735) 0,.int (3) 0,.int (0) 0,.int (0) 0,.int (3) 0,.ref 751,.bool true, .int (318) 0,.ref 752,.none, .ref 753,.ref 754,.ref 755,.int (1280) 0,.int (735) 0,.str ⟨#[47,99,108,97,105,109,47,99,117,116,46,112,121]⟩ 1281], #[]⟩
noncomputable def o757 (P : Params) : Obj := ⟨.type "function", none, .func (fnOf (topDef 25) ⟨#[115,112,108,105,116]⟩ ⟨#[115,112,108,105,116]⟩ 3 [] (.ref 750) (.none) (.none) (.str ⟨#[99,112,121,51,49,51,46,115,104,108,101,120]⟩ 1132) (none) (.ref 756) (.none) 0), #[]⟩
noncomputable def o758 (P : Params) : Obj := ⟨.type "builtin_function_or_method", none, .fields #[.builtin "re.Pattern.search", .ref 62], #[]⟩
noncomputable def o764 (P : Params) : Obj := ⟨.type "code", none, .fields #[.str ⟨#[113,117,111,116,101]⟩ 1285,.str ⟨#[113,117,111,116,101]⟩ 1286,.str ⟨#[47,99,108,97,105,109,47,99,117,116,46,112,121]⟩ 1287,.int (744) 0,.int (1) 0,.int (0) 0,.int (0) 0,.int (3) 0,.ref 759,.bool true, .int (318) 0,.ref 760,.none, .ref 761,.ref 762,.ref 763,.int (1289) 0,.int (744) 0,.str ⟨#[47,99,108,97,105,109,47,99,117,116,46,112,121]⟩ 1290], #[]⟩
noncomputable def o765 (P : Params) : Obj := ⟨.type "function", none, .func (fnOf (topDef 27) ⟨#[113,117,111,116,101]⟩ ⟨#[113,117,111,116,101]⟩ 3 [] (.none) (.none) (.none) (.str ⟨#[99,112,121,51,49,51,46,115,104,108,101,120]⟩ 1132) (none) (.ref 764) (.none) 0), #[]⟩
noncomputable def o771 (P : Params) : Obj := ⟨.type "code", none, .fields #[.str ⟨#[95,108,97,119,95,112,105,101,99,101,115]⟩ 1294,.str ⟨#[95,108,97,119,95,112,105,101,99,101,115]⟩ 1295,.str ⟨#[47,99,108,97,105,109,47,99,117,116,46,112,121]⟩ 1296,.int (751) 0,.int (1) 0,.int (0) 0,.int (0) 0,.int (3) 0,.ref 766,.bool true, .int (318) 0,.ref 767,.none, .ref 768,.ref 769,.ref 770,.int (1302) 0,.int (751) 0,.str ⟨#[47,99,108,97,105,109,47,99,117,116,46,112,121]⟩ 1303], #[]⟩
noncomputable def o772 (P : Params) : Obj := ⟨.type "function", none, .func (fnOf (topDef 29) ⟨#[95,108,97,119,95,112,105,101,99,101,115]⟩ ⟨#[95,108,97,119,95,112,105,101,99,101,115]⟩ 3 [] (.none) (.none) (.none) (.str ⟨#[108,97,119,95,109,113,48,51,56,52,95,48,49]⟩ 1292) (none) (.ref 771) (.none) 0), #[]⟩
noncomputable def o776 (P : Params) : Obj := ⟨.type "code", none, .fields #[.str ⟨#[95,108,97,119,95,98,97,114,101]⟩ 1305,.str ⟨#[95,108,97,119,95,98,97,114,101]⟩ 1306,.str ⟨#[47,99,108,97,105,109,47,99,117,116,46,112,121]⟩ 1307,.int (763) 0,.int (3) 0,.int (0) 0,.int (0) 0,.int (3) 0,.ref 773,.bool true, .int (318) 0,.ref 774,.none, .none, .none, .ref 775,.int (1308) 0,.int (763) 0,.str ⟨#[47,99,108,97,105,109,47,99,117,116,46,112,121]⟩ 1309], #[]⟩
noncomputable def o777 (P : Params) : Obj := ⟨.type "function", none, .func (fnOf (topDef 30) ⟨#[95,108,97,119,95,98,97,114,101]⟩ ⟨#[95,108,97,119,95,98,97,114,101]⟩ 3 [] (.none) (.none) (.none) (.str ⟨#[108,97,119,95,109,113,48,51,56,52,95,48,49]⟩ 1292) (none) (.ref 776) (.none) 0), #[]⟩
noncomputable def o781 (P : Params) : Obj := ⟨.type "code", none, .fields #[.str ⟨#[95,108,97,119,95,100,117,101]⟩ 1311,.str ⟨#[95,108,97,119,95,100,117,101]⟩ 1312,.str ⟨#[47,99,108,97,105,109,47,99,117,116,46,112,121]⟩ 1313,.int (782) 0,.int (4) 0,.int (0) 0,.int (0) 0,.int (3) 0,.ref 778,.bool true, .int (318) 0,.ref 779,.none, .none, .none, .ref 780,.int (1314) 0,.int (782) 0,.str ⟨#[47,99,108,97,105,109,47,99,117,116,46,112,121]⟩ 1315], #[]⟩
noncomputable def o782 (P : Params) : Obj := ⟨.type "function", none, .func (fnOf (topDef 31) ⟨#[95,108,97,119,95,100,117,101]⟩ ⟨#[95,108,97,119,95,100,117,101]⟩ 3 [] (.none) (.none) (.none) (.str ⟨#[108,97,119,95,109,113,48,51,56,52,95,48,49]⟩ 1292) (none) (.ref 781) (.none) 0), #[]⟩
noncomputable def o788 (P : Params) : Obj := ⟨.type "code", none, .fields #[.str ⟨#[95,108,97,119,95,114,101,97,100]⟩ 1317,.str ⟨#[95,108,97,119,95,114,101,97,100]⟩ 1318,.str ⟨#[47,99,108,97,105,109,47,99,117,116,46,112,121]⟩ 1319,.int (788) 0,.int (2) 0,.int (0) 0,.int (0) 0,.int (3) 0,.ref 783,.bool true, .int (318) 0,.ref 784,.none, .ref 785,.ref 786,.ref 787,.int (1323) 0,.int (788) 0,.str ⟨#[47,99,108,97,105,109,47,99,117,116,46,112,121]⟩ 1324], #[]⟩
noncomputable def o789 (P : Params) : Obj := ⟨.type "function", none, .func (fnOf (topDef 32) ⟨#[95,108,97,119,95,114,101,97,100]⟩ ⟨#[95,108,97,119,95,114,101,97,100]⟩ 3 [] (.none) (.none) (.none) (.str ⟨#[108,97,119,95,109,113,48,51,56,52,95,48,49]⟩ 1292) (none) (.ref 788) (.none) 0), #[]⟩
noncomputable def o795 (P : Params) : Obj := ⟨.type "code", none, .fields #[.str ⟨#[108,97,119]⟩ 1326,.str ⟨#[108,97,119]⟩ 1327,.str ⟨#[47,99,108,97,105,109,47,99,117,116,46,112,121]⟩ 1328,.int (793) 0,.int (1) 0,.int (0) 0,.int (0) 0,.int (3) 0,.ref 790,.bool true, .int (318) 0,.ref 791,.none, .ref 792,.ref 793,.ref 794,.int (1336) 0,.int (793) 0,.str ⟨#[47,99,108,97,105,109,47,99,117,116,46,112,121]⟩ 1337], #[]⟩
noncomputable def o796 (P : Params) : Obj := ⟨.type "function", none, .func (fnOf (topDef 33) ⟨#[108,97,119]⟩ ⟨#[108,97,119]⟩ 3 [] (.none) (.none) (.none) (.str ⟨#[108,97,119,95,109,113,48,51,56,52,95,48,49]⟩ 1292) (none) (.ref 795) (.none) 0), #[]⟩
noncomputable def kt (P : Params) : KT := (.node (some (o0 P)) (.node none (.node (some (o3 P)) (.node none (.node none (.node none .nil (.node none .nil (.node none .nil (.node none (.node (some (o735 P)) .nil .nil) .nil)))) .nil) (.node none (.node none .nil (.node (some (o103 P)) .nil .nil)) (.node none (.node none (.node none .nil (.node (some (o407 P)) .nil .nil)) .nil) .nil))) (.node none (.node none (.node none (.node none (.node none (.node none .nil (.node (some (o771 P)) .nil .nil)) (.node (some (o387 P)) .nil .nil)) .nil) (.node none (.node none .nil (.node none (.node (some (o675 P)) .nil .nil) .nil)) .nil)) (.node none .nil (.node none (.node none (.node none (.node (some (o563 P)) .nil .nil) .nil) .nil) .nil))) (.node none (.node none (.node (some (o75 P)) .nil .nil) (.node (some (o107 P)) (.node none (.node none (.node (some (o555 P)) .nil .nil) .nil) .nil) (.node none (.node (some (o363 P)) .nil .nil) .nil))) (.node none (.node none (.node none (.node none .nil (.node (some (o795 P)) .nil .nil)) .nil) .nil) (.node none .nil (.node none (.node (some (o379 P)) .nil .nil) .nil)))))) (.node none (.node none (.node none (.node none (.node none .nil (.node none .nil (.node none (.node (some (o705 P)) .nil .nil) .nil))) (.node none .nil (.node none (.node none (.node (some (o609 P)) .nil .nil) .nil) .nil))) (.node (some (o49 P)) .nil .nil)) (.node none (.node none (.node none (.node none (.node none .nil (.node (some (o777 P)) .nil .nil)) (.node (some (o393 P)) .nil .nil)) (.node none .nil (.node none (.node (some (o713 P)) .nil .nil) .nil))) (.node (some (o105 P)) .nil (.node none .nil (.node none (.node (some (o745 P)) .nil .nil) .nil)))) (.node (some (o57 P)) .nil .nil))) (.node none (.node none (.node none (.node none (.node (some (o133 P)) .nil .nil) .nil) (.node none (.node none (.node none (.node (some (o549 P)) .nil .nil) .nil) (.node none (.node (some (o677 P)) .nil .nil) .nil)) (.node none .nil (.node none (.node (some (o741 P)) .nil .nil) .nil)))) (.node none (.node none (.node none (.node none .nil (.node (some (o789 P)) .nil .nil)) .nil) .nil) (.node none .nil (.node none (.node (some (o373 P)) .nil .nil) (.node none (.node (some (o757 P)) .nil .nil) .nil))))) (.node none (.node none (.node none (.node none (.node none .nil (.node (some (o781 P)) .nil .nil)) .nil) .nil) (.node none (.node none (.node none (.node (some (o557 P)) .nil .nil) .nil) .nil) .nil)) (.node (some (o61 P)) (.node none (.node none .nil (.node none (.node (some (o669 P)) .nil .nil) .nil)) .nil) (.node none .nil (.node none .nil (.node none (.node (some (o765 P)) .nil .nil) .nil)))))))) (.node (some (o2 P)) (.node none (.node none (.node none .nil (.node (some (o48 P)) .nil .nil)) (.node none (.node none (.node none (.node none (.node none .nil (.node (some (o776 P)) .nil .nil)) .nil) (.node none .nil (.node none (.node (some (o712 P)) .nil .nil) .nil))) (.node none .nil (.node none .nil (.node none (.node (some (o744 P)) .nil .nil) .nil)))) (.node (some (o56 P)) (.node none (.node none .nil (.node (some (o408 P)) .nil .nil)) .nil) .nil))) (.node none (.node none (.node none (.node none (.node (some (o132 P)) (.node none .nil (.node (some (o772 P)) .nil .nil)) .nil) .nil) (.node none (.node none .nil (.node none (.node (some (o676 P)) .nil .nil) .nil)) .nil)) (.node none (.node none (.node none (.node none .nil (.node (some (o788 P)) .nil .nil)) .nil) .nil) (.node none (.node none (.node none (.node (some (o564 P)) .nil .nil) .nil) .nil) (.node none .nil (.node none (.node (some (o756 P)) .nil .nil) .nil))))) (.node none (.node none (.node (some (o76 P)) .nil .nil) (.node none (.node none (.node none (.node (some (o556 P)) .nil .nil) .nil) .nil) .nil)) (.node none (.node none (.node none (.node none .nil (.node (some (o796 P)) .nil .nil)) (.node none (.node (some (o668 P)) .nil .nil) .nil)) .nil) (.node none .nil (.node none (.node (some (o380 P)) .nil .nil) (.node none (.node (some (o764 P)) .nil .nil) .nil))))))) (.node none (.node none (.node none (.node none (.node none (.node none .nil (.node (some (o386 P)) .nil .nil)) (.node none .nil (.node none (.node (some (o706 P)) .nil .nil) .nil))) (.node none .nil (.node none (.node none (.node (some (o610 P)) .nil .nil) .nil) .nil))) (.node (some (o50 P)) .nil .nil)) (.node none (.node none (.node none (.node none .nil (.node (some (o394 P)) .nil .nil)) .nil) (.node (some (o106 P)) .nil .nil)) .nil)) (.node none (.node none (.node none .nil (.node (some (o102 P)) .nil (.node none .nil (.node none (.node (some (o742 P)) .nil .nil) .nil)))) (.node none (.node none (.node none .nil (.node none (.node (some (o662 P)) .nil .nil) .nil)) .nil) (.node none .nil (.node none .nil (.node none (.node (some (o758 P)) .nil .nil) .nil))))) (.node none (.node none (.node none (.node none (.node none .nil (.node (some (o782 P)) .nil .nil)) .nil) .nil) (.node none .nil (.node none .nil (.node none (.node (some (o750 P)) .nil .nil) .nil)))) (.node (some (o62 P)) (.node none .nil (.node none .nil (.node none (.node (some (o734 P)) .nil .nil) .nil))) .nil))))))
noncomputable def ktAs : List Nat := [0,2,3,48,49,50,56,57,61,62,75,76,102,103,105,106,107,132,133,363,373,379,380,386,387,393,394,407,408,549,555,556,557,563,564,609,610,662,668,669,675,676,677,705,706,712,713,734,735,741,742,744,745,750,756,757,758,764,765,771,772,776,777,781,782,788,789,795,796]
noncomputable def ktOs (P : Params) : List Obj := [o0 P, o2 P, o3 P, o48 P, o49 P, o50 P, o56 P, o57 P, o61 P, o62 P, o75 P, o76 P, o102 P, o103 P, o105 P, o106 P, o107 P, o132 P, o133 P, o363 P, o373 P, o379 P, o380 P, o386 P, o387 P, o393 P, o394 P, o407 P, o408 P, o549 P, o555 P, o556 P, o557 P, o563 P, o564 P, o609 P, o610 P, o662 P, o668 P, o669 P, o675 P, o676 P, o677 P, o705 P, o706 P, o712 P, o713 P, o734 P, o735 P, o741 P, o742 P, o744 P, o745 P, o750 P, o756 P, o757 P, o758 P, o764 P, o765 P, o771 P, o772 P, o776 P, o777 P, o781 P, o782 P, o788 P, o789 P, o795 P, o796 P]
end Mine
end
section
namespace Mine
open PySem PySem.W
noncomputable def hasS (s sub : Str) : Bool := !(Builtin.Str.occurrences s sub 0 s.length 1).isEmpty
noncomputable def slc (s : Str) (lo hi : Nat) : Str := ⟨(s.cps.toList.drop lo).take (hi - lo) |>.toArray⟩
noncomputable def fits (n : Nat) : Bool := Nat.ble n sizeLine
noncomputable def fnd (x y : Str) (lo hi : Nat) : Int := match Builtin.Str.occurrences x y lo hi 1 with
 | k :: _ => (k : Int)
 | [] => -1
noncomputable def strsOf : List Value → Option (List (List Nat))
 | [] => some []
 | .str y _ :: l => match strsOf l with
   | some ys => some (y.cps.toList :: ys)
   | none => none
 | _ => none
noncomputable def orcs : List ((Bool × String) × (Args → Obj → OA)) := [
 ((false, "str.__eq__"), fun a _ => match a with | ⟨[.str x _, .str y _], []⟩ => .dec (x.cps.toList == y.cps.toList) | _ => .no),
 ((false, "str.__ne__"), fun a _ => match a with | ⟨[.str x _, .str y _], []⟩ => .dec (x.cps.toList != y.cps.toList) | _ => .no),
 ((false, "str.__contains__"), fun a _ => match a with | ⟨[.str x _, .str y _], []⟩ => .dec (hasS x y) | _ => .no),
 ((false, "int.__eq__"), fun a _ => match a with | ⟨[.int x _, .int y _], []⟩ => .dec (x == y) | _ => .no),
 ((false, "int.__lt__"), fun a _ => match a with | ⟨[.int x _, .int y _], []⟩ => .dec (decide (x < y)) | _ => .no),
 ((false, "int.__gt__"), fun a _ => match a with | ⟨[.int x _, .int y _], []⟩ => .dec (decide (x > y)) | _ => .no),
 ((false, "int.__ge__"), fun a _ => match a with | ⟨[.int x _, .int y _], []⟩ => .dec (decide (x ≥ y)) | _ => .no),
 ((false, "int.__add__"), fun a _ => match a with | ⟨[.int x _, .int y _], []⟩ => .tok true 1 (fun t => .int (x + y) t) | _ => .no),
 ((false, "int.__sub__"), fun a _ => match a with | ⟨[.int x _, .int y _], []⟩ => .tok true 1 (fun t => .int (x - y) t) | _ => .no),
 ((false, "int.__mod__"), fun a _ => match a with | ⟨[.int x _, .int y _], []⟩ => .tok (y != 0) 1 (fun t => .int (x.fmod y) t) | _ => .no),
 ((false, "len"), fun a _ => match a with | ⟨[.str x _], []⟩ => .tok (fits x.length) 2 (fun t => .int x.length (t + 1)) | _ => .no),
 ((true, "len"), fun a _ => match a with | ⟨[.str x _], []⟩ => .tok (fits x.length) 2 (fun t => .int x.length (t + 1)) | _ => .no),
 ((false, "str.__add__"), fun a _ => match a with
   | ⟨[.str x t, .str y u], []⟩ => (match x.cps.toList, y.cps.toList with
     | [], _ => .val (.str y u)
     | _ :: _, [] => .val (.str x t)
     | _ :: _, _ :: _ => .tok (fits (x ++ y).length) 1 (fun t => .str (x ++ y) t))
   | _ => .no),
 ((false, "str.__getitem__"), fun a _ => match a with
   | ⟨[.str x _, .int k _], []⟩ => .tok (fits x.length && decide (0 ≤ k) && decide (k < x.length)) 1 (fun t => .str ⟨#[x.cps.toList.getD k.toNat 0]⟩ t)
   | _ => .no),
 ((false, "str.find"), fun a _ => match a with
   | ⟨[.str x _, .str y _, .int i _, .int j _], []⟩ => .tok (decide (0 ≤ i) && decide (0 ≤ j) && decide (j ≤ x.length)) 1 (fun t => .int (fnd x y i.toNat j.toNat) t)
   | _ => .no),
 ((false, "int.__floordiv__"), fun a _ => match a with | ⟨[.int x _, .int y _], []⟩ => .tok (y != 0 && !Builtin.divisionGoesByPylong x y) 1 (fun t => .int (x.fdiv y) t) | _ => .no),
 ((false, "chr"), fun a _ => match a with | ⟨[.int x _], []⟩ => .tok (decide (0 ≤ x) && decide (x ≤ 0x10FFFF)) 1 (fun t => .str ⟨#[x.toNat]⟩ t) | _ => .no)]
noncomputable def gPush (v : Value) : Obj → Obj
 | ⟨c, d, .seq xs n, sl⟩ => ⟨c, d, .seq ⟨xs.toList ++ [v]⟩ (n + 1), sl⟩
 | o => o
noncomputable def setAt : List Value → Nat → Value → List Value
 | [], _, _ => []
 | x :: l, i, v => match Nat.beq i 0 with
   | true => v :: l
   | false => x :: setAt l (i - 1) v
noncomputable def gSet (i : Nat) (v : Value) : Obj → Obj
 | ⟨c, d, .seq xs n, sl⟩ => ⟨c, d, .seq ⟨setAt xs.toList i v⟩ n, sl⟩
 | o => o
noncomputable def gItS (x : Str) (t : Nat) (i : Nat) (c : Value) (d : Option Addr) (sl : Array (Option Value)) : Obj → Obj := fun _ => ⟨c, d, .fields #[.str x t, .int ((i + 1 : Nat) : Int) 0], sl⟩
noncomputable def idx (k : Int) (n : Nat) : Nat := match decide (k < 0) with
 | true => (k + n).toNat
 | false => k.toNat
noncomputable def idxOk (k : Int) (n : Nat) : Bool := decide (-(n : Int) ≤ k) && decide (k < n) && decide (-(2 ^ 63) ≤ k) && decide (k < 2 ^ 63)
noncomputable def strIt (a : Args) (o : Obj) : OA := match a, o with
 | ⟨[.ref _], []⟩,⟨c, d, .fields vs, sl⟩ => (match vs.toList with
   | [.str x t, .int i u] => .gen (Nat.blt i.toNat x.cps.toList.length && decide (0 ≤ i) && Nat.beq u 0) 1 (some (gItS x t i.toNat c d sl)) (fun k => .str ⟨#[x.cps.toList.getD i.toNat 0]⟩ k)
   | _ => .no)
 | _, _ => .no
noncomputable def orcsO : List ((Bool × String) × (Args → Obj → OA)) := [
 ((false, "str.__getitem__"), fun a o => match a, o with
   | ⟨[.str x _, .ref _], []⟩,⟨.type "slice", _, .fields vs, _⟩ => (match vs.toList with
     | [.int lo _, .int hi _, .none] => .tok (fits x.length && decide (0 ≤ lo) && decide (lo ≤ hi) && decide (hi ≤ x.length) && Nat.blt (hi.toNat - lo.toNat) x.length) 1 (fun t => .str (slc x lo.toNat hi.toNat) t)
     | _ => .no)
   | _, _ => .no),
 ((false, "str.__getitem__"), fun a o => match a, o with
   | ⟨[.str x t, .ref _], []⟩,⟨.type "slice", _, .fields vs, _⟩ => (match vs.toList with
     | [.int lo _, .int hi _, .none] => .tok (decide (lo = 0) && decide (hi = x.length)) 0 (fun _ => .str x t)
     | _ => .no)
   | _, _ => .no),
 ((false, "tuple.__contains__"), fun a o => match a, o with
   | ⟨[.ref _, .str x _], []⟩,⟨.type "tuple", _, .seq vs _, _⟩ => (match strsOf vs.toList with
     | some ys => .dec (ys.any (· == x.cps.toList))
     | none => .no)
   | _, _ => .no),
 ((false, "str.__getitem__"), fun a o => match a, o with
   | ⟨[.str x _, .ref _], []⟩,⟨.type "slice", _, .fields vs, _⟩ => (match vs.toList with
     | [.int lo _, .none, .none] => .tok (fits x.length && decide (0 < lo) && decide (lo ≤ x.length)) 1 (fun t => .str (slc x lo.toNat x.length) t)
     | _ => .no)
   | _, _ => .no),
 ((false, "list.append"), fun a o => match a, o with
   | ⟨[.ref _, v], []⟩,⟨.type "list", _, .seq xs _, _⟩ => .gen (fits xs.toList.length) 0 (some (gPush v)) (fun _ => .none)
   | _, _ => .no),
 ((false, "list.__getitem__"), fun a o => match a, o with
   | ⟨[.ref _, .int k _], []⟩,⟨.type "list", _, .seq xs _, _⟩ => .gen (idxOk k xs.toList.length) 0 none (fun _ => xs.toList.getD (idx k xs.toList.length) .none)
   | _, _ => .no),
 ((false, "list.__setitem__"), fun a o => match a, o with
   | ⟨[.ref _, .int k _, v], []⟩,⟨.type "list", _, .seq xs _, _⟩ => .gen (idxOk k xs.toList.length) 0 (some (gSet (idx k xs.toList.length) v)) (fun _ => .none)
   | _, _ => .no),
 ((false, "str_ascii_iterator.__next__"), fun a o => match o.cls with | .type "str_ascii_iterator" => strIt a o | _ => .no),
 ((false, "str_iterator.__next__"), fun a o => match o.cls with | .type "str_iterator" => strIt a o | _ => .no)]
noncomputable def noOrc : (Bool × String) × (Args → Obj → OA) := ((false, ""), fun _ _ => .no)
noncomputable def getN {α : Type} (d : α) : List α → Nat → α
 | [], _ => d
 | a :: l, i => match Nat.beq i 0 with
   | true => a
   | false => getN d l (i - 1)
noncomputable def OO (j : Nat) : (Bool × String) × (Args → Obj → OA) := match Nat.blt j 32 with
 | true => getN noOrc orcs j
 | false => getN noOrc orcsO (j - 32)
end Mine
end
section
namespace Mine
open PySem PySem.W PySem.Calls
open PySem.Sem (wp finPost)
noncomputable def arOf (Γ : Ctx) : Around := { handled := Γ.handled, depth := frameCount Γ.below + Γ.code.weight, frames := none, guards := none, units := Γ.code.cUnits + unitsOf Γ.below }
theorem in_arOf (Γ : Ctx) : Γ.In (arOf Γ) := ⟨rfl, Nat.le_refl _, fun _ h => (nomatch h), fun _ h => (nomatch h), Nat.le_refl _⟩
theorem below_goto {Γ : Ctx} (c : Code) : (Γ.goto c).Below (arOf Γ) :=
 ⟨rfl, by show frameCount Γ.below ≤ frameCount Γ.below + _; omega, fun _ h => (nomatch h), fun _ h => (nomatch h), by show unitsOf Γ.below ≤ _ + unitsOf Γ.below; omega⟩
section
variable {prog : Program} {w : World} {Γ : Ctx} {p : Pos} {s : Shared} {R : Result → Shared → Prop}
theorem code_of_any {t : Sem Fin} (ht : denote table Γ.code = t)
   (h : ∀ A : Around, wpAny (model prog w) A.in1 t (fun fin s' => match fin with | .done f => R (.ok f) s' | .again c' => c'.quiet = true ∧ codeAny (model prog w) A c' R s') (fun e s' => R (.error e) s') s) : wpCode (model prog w) Γ R p s := by
 rw [wpCode_iff_wp]
 show wp _ Γ (denote table Γ.code) _ _ p s
 rw [ht]
 refine Sem.wp_mono _ _ _ (fun fin p' s' h' => ?_) (fun _ _ _ h' => h') _ _ (wpAny_of_in1 (h (arOf Γ)) Γ p (in_arOf Γ))
 cases fin with
 | done f => exact h'
 | again c => exact ⟨h'.1, h'.2 _ p' rfl (below_goto c)⟩
theorem again_code {c c' : Code} (hc : Γ.code = c) (h : den c = .pure (.again c')) (hq : c'.quiet = true) (H : wpCode (model prog w) (Γ.goto c') R p s) : wpCode (model prog w) Γ R p s := by
 rw [wpCode_iff_wp, model_den, hc, h, Sem.wp_pure]
 exact ⟨hq, H⟩
theorem gives_at {c c' : Code} {t : Sem Fin} {m : Made} (hc : Γ.code = c) (h : den c = .pure (.again c')) (hq : c'.quiet = true) (ht : denote table c' = t) (g : Gives t m) (hp : m.post (fun v s' => R (.ok (.ret v)) s') s) : wpCode (model prog w) Γ R p s :=
 again_code hc h hq (code_of_any (Γ := Γ.goto c') ht fun A => g prog w A R s hp)
theorem meets_at {c c' : Code} {t : Sem Fin} {S : Spec} (hc : Γ.code = c) (h : den c = .pure (.again c')) (hq : c'.quiet = true) (ht : denote table c' = t) (g : Meets t S) (hp : ∀ A, S A R s) : wpCode (model prog w) Γ R p s :=
 again_code hc h hq (code_of_any (Γ := Γ.goto c') ht fun A => g prog w A R s (hp A))
theorem entry_is {id : String} {b : Builtin} {args : Args} (h : entryFor table id = some b) : denote table (.builtin id args) = b args := by
 show (match entryFor table id with | some b => b args | none => unsupported _) = _
 rw [h]
end
theorem fits_le {n : Nat} (h : fits n = true) : n ≤ sizeLine := Nat.le_of_ble_eq_true h
theorem len_gives {prog : Program} {w : World} {A : Around} {R : Result → Shared → Prop} {s : Shared} {x : Str} {t : Tok} (hf : x.length ≤ sizeLine) (h : R (.ok (.ret (.int x.length (s.toks + 1)))) { s with toks := s.toks + 2 }) :
   wpAny (model prog w) A.in1 (Builtin.«len» ⟨[.str x t], []⟩) (fun fin s' => match fin with | .done f => R (.ok f) s' | .again c' => c'.quiet = true ∧ codeAny (model prog w) A c' R s') (fun e s' => R (.error e) s') s := by
 have hs : (sizeLine : Int) = 16777216 := by decide
 have h0 : ¬ ((x.length : Int) < 0) := by omega
 have h1 : ¬ ((x.length : Int) ≥ 2 ^ 63) := by
   have : (x.length : Int) ≤ sizeLine := by exact_mod_cast hf
   omega
 unfold Builtin.«len»
 refine wpAny_bind (m := oneArg "len" _) (wpAny_pure ?_)
 refine wpAny_bind (m := callSpecial? (.str x t) (Str.ofString "__len__")) (wpAny_callSpecial?_slot (name := Str.ofString "__len__") (typeIs_str s x t) F.slot_str_len (call_gives F.slot_str_len (typeIs_str s x t) F.entry_str_len (F.args_str_len_1 _) (gives_str_len x t) ?_))
 show wpAny _ _ _ _ _ { s with toks := s.toks + 1 }
 refine wpAny_bind (wpAny_holding (wpAny_pure ?_))
 refine wpAny_bind (wpAny_letGo ?_)
 show wpAny _ _ (if (x.length : Int) < 0 then _ else _) _ _ _
 rw [if_neg h0]
 show wpAny _ _ (if (x.length : Int) ≥ 2 ^ 63 then _ else _) _ _ _
 rw [if_neg h1]
 exact wpAny_bind (wpAny_mkInt (wpAny_pure h))
section
variable {prog : Program} {w : World} {P : Shared → Prop}
theorem says_dec {c c' : Code} {t : Sem Fin} {q : Bool} (h : den c = .pure (.again c')) (hq : c'.quiet = true) (ht : denote table c' = t) (g : Gives t (.val (.bool q))) : OASays (model prog w) c (.dec q) P :=
 fun _ _ _ _ hc _ hr => gives_at hc h hq ht g hr
theorem says_val {c c' : Code} {t : Sem Fin} {v : Value} (h : den c = .pure (.again c')) (hq : c'.quiet = true) (ht : denote table c' = t) (g : Gives t (.val v)) : OASays (model prog w) c (.val v) P :=
 fun _ _ _ _ hc _ hr => gives_at hc h hq ht g hr
theorem says_int {c c' : Code} {t : Sem Fin} {d : Bool} {i : Int} (h : den c = .pure (.again c')) (hq : c'.quiet = true) (ht : denote table c' = t) (g : d = true → Gives t (.int i)) : OASays (model prog w) c (.tok d 1 fun k => .int i k) P :=
 fun hd _ _ _ _ hc _ hr => gives_at hc h hq ht (g hd) hr
theorem says_str {c c' : Code} {t : Sem Fin} {d : Bool} {x : Str} (h : den c = .pure (.again c')) (hq : c'.quiet = true) (ht : denote table c' = t) (g : d = true → Gives t (.str x)) (hx : d = true → x.length ≤ sizeLine) : OASays (model prog w) c (.tok d 1 fun k => .str x k) P :=
 fun hd _ _ _ _ hc _ hr => gives_at hc h hq ht (g hd) ⟨hx hd, hr⟩
noncomputable abbrev fO (j : Nat) := (getN noOrc orcs j).2
theorem says0 (a : Args) (o : Obj) : OASays (model prog w) (oCode false "str.__eq__" a) (fO 0 a o) P := by
 show OASays _ _ (match a with | ⟨[.str x _, .str y _], []⟩ => OA.dec (x.cps.toList == y.cps.toList) | _ => .no) P
 split
 · rename_i x t y u
   exact says_dec (c' := .builtin "str.__eq__" ⟨[.str x t, .str y u], []⟩) (by kernel_rfl) (by kernel_rfl) (entry_is F.entry_str_eq) (gives_str_eq x y t u)
 · trivial
theorem says1 (a : Args) (o : Obj) : OASays (model prog w) (oCode false "str.__ne__" a) (fO 1 a o) P := by
 show OASays _ _ (match a with | ⟨[.str x _, .str y _], []⟩ => OA.dec (x.cps.toList != y.cps.toList) | _ => .no) P
 split
 · rename_i x t y u
   exact says_dec (c' := .builtin "str.__ne__" ⟨[.str x t, .str y u], []⟩) (by kernel_rfl) (by kernel_rfl) (entry_is F.entry_str_ne) (gives_str_ne x y t u)
 · trivial
theorem says2 (a : Args) (o : Obj) : OASays (model prog w) (oCode false "str.__contains__" a) (fO 2 a o) P := by
 show OASays _ _ (match a with | ⟨[.str x _, .str y _], []⟩ => OA.dec (hasS x y) | _ => .no) P
 split
 · rename_i x t y u
   exact says_dec (c' := .builtin "str.__contains__" ⟨[.str x t, .str y u], []⟩) (by kernel_rfl) (by kernel_rfl) (entry_is F.entry_str_contains) (gives_str_contains x y t u)
 · trivial
theorem says3 (a : Args) (o : Obj) : OASays (model prog w) (oCode false "int.__eq__" a) (fO 3 a o) P := by
 show OASays _ _ (match a with | ⟨[.int x _, .int y _], []⟩ => OA.dec (x == y) | _ => .no) P
 split
 · rename_i x t y u
   exact says_dec (c' := .builtin "int.__eq__" ⟨[.int x t, .int y u], []⟩) (by kernel_rfl) (by kernel_rfl) (entry_is F.entry_int_eq) (gives_int_eq x y t u)
 · trivial
theorem says4 (a : Args) (o : Obj) : OASays (model prog w) (oCode false "int.__lt__" a) (fO 4 a o) P := by
 show OASays _ _ (match a with | ⟨[.int x _, .int y _], []⟩ => OA.dec (decide (x < y)) | _ => .no) P
 split
 · rename_i x t y u
   exact says_dec (c' := .builtin "int.__lt__" ⟨[.int x t, .int y u], []⟩) (by kernel_rfl) (by kernel_rfl) (entry_is F.entry_int_lt) (gives_int_lt x y t u)
 · trivial
theorem says5 (a : Args) (o : Obj) : OASays (model prog w) (oCode false "int.__gt__" a) (fO 5 a o) P := by
 show OASays _ _ (match a with | ⟨[.int x _, .int y _], []⟩ => OA.dec (decide (x > y)) | _ => .no) P
 split
 · rename_i x t y u
   exact says_dec (c' := .builtin "int.__gt__" ⟨[.int x t, .int y u], []⟩) (by kernel_rfl) (by kernel_rfl) (entry_is F.entry_int_gt) (gives_int_gt x y t u)
 · trivial
theorem says6 (a : Args) (o : Obj) : OASays (model prog w) (oCode false "int.__ge__" a) (fO 6 a o) P := by
 show OASays _ _ (match a with | ⟨[.int x _, .int y _], []⟩ => OA.dec (decide (x ≥ y)) | _ => .no) P
 split
 · rename_i x t y u
   exact says_dec (c' := .builtin "int.__ge__" ⟨[.int x t, .int y u], []⟩) (by kernel_rfl) (by kernel_rfl) (entry_is F.entry_int_ge) (gives_int_ge x y t u)
 · trivial
theorem says7 (a : Args) (o : Obj) : OASays (model prog w) (oCode false "int.__add__" a) (fO 7 a o) P := by
 show OASays _ _ (match a with | ⟨[.int x _, .int y _], []⟩ => OA.tok true 1 (fun t => .int (x + y) t) | _ => .no) P
 split
 · rename_i x t y u
   exact says_int (c' := .builtin "int.__add__" ⟨[.int x t, .int y u], []⟩) (by kernel_rfl) (by kernel_rfl) (entry_is F.entry_int_add) (fun _ => gives_int_add x y t u)
 · trivial
theorem says8 (a : Args) (o : Obj) : OASays (model prog w) (oCode false "int.__sub__" a) (fO 8 a o) P := by
 show OASays _ _ (match a with | ⟨[.int x _, .int y _], []⟩ => OA.tok true 1 (fun t => .int (x - y) t) | _ => .no) P
 split
 · rename_i x t y u
   exact says_int (c' := .builtin "int.__sub__" ⟨[.int x t, .int y u], []⟩) (by kernel_rfl) (by kernel_rfl) (entry_is F.entry_int_sub) (fun _ => gives_int_sub x y t u)
 · trivial
theorem gives_mod (x y : Int) (t u : Tok) (h : (y != 0) = true) : Gives (Builtin.«int.__mod__» ⟨[.int x t, .int y u], []⟩) (.int (x.fmod y)) := by
 have e : (y == 0) = false := by simpa using h
 refine .of_eq ?_
 show (if (y == 0) = true then _ else _) = _
 rw [e]; rfl
theorem says9 (a : Args) (o : Obj) : OASays (model prog w) (oCode false "int.__mod__" a) (fO 9 a o) P := by
 show OASays _ _ (match a with | ⟨[.int x _, .int y _], []⟩ => OA.tok (y != 0) 1 (fun t => .int (x.fmod y) t) | _ => .no) P
 split
 · rename_i x t y u
   exact says_int (c' := .builtin "int.__mod__" ⟨[.int x t, .int y u], []⟩) (by kernel_rfl) (by kernel_rfl) (entry_is F.entry_int_mod) (fun h => gives_mod x y t u h)
 · trivial
theorem says10 (a : Args) (o : Obj) : OASays (model prog w) (oCode false "len" a) (fO 10 a o) P := by
 show OASays _ _ (match a with | ⟨[.str x _], []⟩ => OA.tok (fits x.length) 2 (fun t => .int x.length (t + 1)) | _ => .no) P
 split
 · rename_i x t
   intro hd Γ p s R hc _ hr
   exact again_code hc (c' := .builtin "len" ⟨[.str x t], []⟩) (by kernel_rfl) (by kernel_rfl) (code_of_any (entry_is entry_len) fun A => len_gives (fits_le hd) hr)
 · trivial
theorem says11 (a : Args) (o : Obj) : OASays (model prog w) (oCode true "len" a) (fO 11 a o) P := by
 show OASays _ _ (match a with | ⟨[.str x _], []⟩ => OA.tok (fits x.length) 2 (fun t => .int x.length (t + 1)) | _ => .no) P
 split
 · intro hd Γ p s R hc _ hr
   exact code_of_any (by rw [hc]; exact entry_is entry_len) fun A => len_gives (fits_le hd) hr
 · trivial
theorem says12 (a : Args) (o : Obj) : OASays (model prog w) (oCode false "str.__add__" a) (fO 12 a o) P := by
 show OASays _ _ (match a with
   | ⟨[.str x t, .str y u], []⟩ => (match x.cps.toList, y.cps.toList with
     | [], _ => OA.val (.str y u)
     | _ :: _, [] => .val (.str x t)
     | _ :: _, _ :: _ => .tok (fits (x ++ y).length) 1 (fun t => .str (x ++ y) t))
   | _ => .no) P
 split
 · rename_i x t y u
   have g := gives_str_add x y t u
   have lx : x.length = x.cps.toList.length := by simp [Str.length]
   have ly : y.length = y.cps.toList.length := by simp [Str.length]
   split
   · rename_i hx
     rw [lx, hx] at g
     exact says_val (c' := .builtin "str.__add__" ⟨[.str x t, .str y u], []⟩) (by kernel_rfl) (by kernel_rfl) (entry_is F.entry_str_add) g
   · rename_i a l hx hy
     rw [lx, ly, hx, hy] at g
     exact says_val (c' := .builtin "str.__add__" ⟨[.str x t, .str y u], []⟩) (by kernel_rfl) (by kernel_rfl) (entry_is F.entry_str_add) g
   · rename_i a l b m hx hy
     rw [lx, ly, hx, hy] at g
     exact says_str (c' := .builtin "str.__add__" ⟨[.str x t, .str y u], []⟩) (by kernel_rfl) (by kernel_rfl) (entry_is F.entry_str_add) (fun _ => g) fun h => fits_le h
 · trivial
theorem says13 (a : Args) (o : Obj) : OASays (model prog w) (oCode false "str.__getitem__" a) (fO 13 a o) P := by
 show OASays _ _ (match a with
   | ⟨[.str x _, .int k _], []⟩ => OA.tok (fits x.length && decide (0 ≤ k) && decide (k < x.length)) 1 (fun t => .str ⟨#[x.cps.toList.getD k.toNat 0]⟩ t)
   | _ => .no) P
 split
 · rename_i x t k u
   refine says_str (c' := .builtin "str.__getitem__" ⟨[.str x t, .int k u], []⟩) (by kernel_rfl) (by kernel_rfl) (entry_is F.entry_str_getitem) (fun h => ?_) fun _ => (by show 1 ≤ sizeLine; decide)
   simp only [Bool.and_eq_true, decide_eq_true_eq] at h
   obtain ⟨⟨h1, h2⟩, h3⟩ := h
   have hs : (sizeLine : Int) = 16777216 := by decide
   have hl : (x.length : Int) ≤ sizeLine := by exact_mod_cast fits_le h1
   refine gives_str_getitem x k t u _ ?_ ?_
   · rw [Bool.or_eq_false_iff]
     exact ⟨decide_eq_false (by omega), decide_eq_false (by omega)⟩
   · obtain ⟨n, rfl⟩ := Int.eq_ofNat_of_zero_le h2
     have hn : n < x.cps.size := by have : x.length = x.cps.size := rfl; omega
     have e : seqIndex? (n : Int) x.length = some n := by
       unfold seqIndex?
       have : ¬ ((n : Int) < 0) := by omega
       simp [this, h3]
     rw [e]
     simp only [Option.bind_some, Int.toNat_natCast]
     rw [Array.getElem?_eq_getElem hn, List.getD_eq_getElem?_getD, List.getElem?_eq_getElem (by simpa using hn)]
     simp
 · trivial
theorem gives_find (x y : Str) (i j : Nat) (t u v v' : Tok) (h : j ≤ x.length) : Gives (Builtin.«str.find» ⟨[.str x t, .str y u, .int (i : Int) v, .int (j : Int) v'], []⟩) (.int (fnd x y i j)) := by
 show Gives (match Builtin.Str.occurrences x y (fromIndex x.length i) (min (fromIndex x.length j) x.length) 1 with | k :: _ => retInt k | [] => (do rule "str.find.not-found"; retInt (-1))) _
 have e : ∀ n : Nat, fromIndex x.length (n : Int) = n := fun n => by unfold fromIndex; rw [if_neg (by omega)]; omega
 rw [e, e, Nat.min_eq_left h]
 unfold fnd
 cases Builtin.Str.occurrences x y i j 1 with
 | nil => exact .rule (.of_eq rfl)
 | cons k _ => exact .of_eq rfl
theorem says14 (a : Args) (o : Obj) : OASays (model prog w) (oCode false "str.find" a) (fO 14 a o) P := by
 show OASays _ _ (match a with
   | ⟨[.str x _, .str y _, .int i _, .int j _], []⟩ => OA.tok (decide (0 ≤ i) && decide (0 ≤ j) && decide (j ≤ x.length)) 1 (fun t => .int (fnd x y i.toNat j.toNat) t)
   | _ => .no) P
 split
 · rename_i x t y u i v j v'
   refine says_int (c' := .builtin "str.find" ⟨[.str x t, .str y u, .int i v, .int j v'], []⟩) (by kernel_rfl) (by kernel_rfl) (entry_is F.entry_str_find) (fun h => ?_)
   simp only [Bool.and_eq_true, decide_eq_true_eq] at h
   obtain ⟨⟨h1, h2⟩, h3⟩ := h
   obtain ⟨i, rfl⟩ := Int.eq_ofNat_of_zero_le h1
   obtain ⟨j, rfl⟩ := Int.eq_ofNat_of_zero_le h2
   exact gives_find x y i j t u v v' (by omega)
 · trivial
theorem isSlice_of {h : Heap} {a : Nat} {d : Option Addr} {vs : Array Value} {sl : Array (Option Value)} {lo hi : Int} {t1 t2 : Nat} (g : h.get? a = some ⟨.type "slice", d, .fields vs, sl⟩) (e : vs.toList = [.int lo t1,.int hi t2,.none]) :
   h.IsSlice a (some (lo, t1)) (some (hi, t2)) none := ⟨_, g, rfl, by
 have : vs = #[Value.int lo t1, Value.int hi t2, Value.none] := Array.ext' e
 rw [this]; rfl⟩
theorem says15 (a : Args) (o : Obj) : OASays (model prog w) (oCode false "int.__floordiv__" a) (fO 15 a o) P := by
 show OASays _ _ (match a with | ⟨[.int x _, .int y _], []⟩ => OA.tok (y != 0 && !Builtin.divisionGoesByPylong x y) 1 (fun t => .int (x.fdiv y) t) | _ => .no) P
 split
 · rename_i x t y u
   refine says_int (c' := .builtin "int.__floordiv__" ⟨[.int x t, .int y u], []⟩) (by kernel_rfl) (by kernel_rfl) (entry_is F.entry_int_floordiv) (fun h => ?_)
   have h' := Bool.and_eq_true_iff.mp h
   exact AutoIntG4.int___floordiv___int_int_1 x t y u (by simpa using h'.1) (by simpa using h'.2)
 · trivial
theorem says16 (a : Args) (o : Obj) : OASays (model prog w) (oCode false "chr" a) (fO 16 a o) P := by
 show OASays _ _ (match a with | ⟨[.int x _], []⟩ => OA.tok (decide (0 ≤ x) && decide (x ≤ 0x10FFFF)) 1 (fun t => .str ⟨#[x.toNat]⟩ t) | _ => .no) P
 split
 · rename_i x t
   refine says_str (c' := .builtin "chr" ⟨[.int x t], []⟩) (by kernel_rfl) (by kernel_rfl) (entry_is F.entry_chr) (fun h => ?_) (fun _ => by show 1 ≤ sizeLine; decide)
   simp only [Bool.and_eq_true, decide_eq_true_eq] at h
   exact gives_chr x t (by simp; omega)
 · trivial
noncomputable abbrev gO (j : Nat) := (getN noOrc orcsO j).2
theorem says32 (a : Args) (o : Obj) : OASays (model prog w) (oCode false "str.__getitem__" a) (gO 0 a o) fun s => s.heap.get? (refArg a) = some o := by
 show OASays _ _ (match a, o with
   | ⟨[.str x _, .ref _], []⟩,⟨.type "slice", _, .fields vs, _⟩ => (match vs.toList with
     | [.int lo _, .int hi _, .none] => OA.tok (fits x.length && decide (0 ≤ lo) && decide (lo ≤ hi) && decide (hi ≤ x.length) && Nat.blt (hi.toNat - lo.toNat) x.length) 1 (fun t => .str (slc x lo.toNat hi.toNat) t)
     | _ => .no)
   | _, _ => .no) _
 split
 · rename_i x t r d vs sl
   split
   · rename_i lo t1 hi t2 hv
     intro hd Γ p s R hc hP hr
     simp only [Bool.and_eq_true, decide_eq_true_eq] at hd
     obtain ⟨⟨⟨⟨h1, h2⟩, h3⟩, h4⟩, h5⟩ := hd
     have hs := isSlice_of hP hv
     obtain ⟨a, rfl⟩ := Int.eq_ofNat_of_zero_le h2
     obtain ⟨b, rfl⟩ := Int.eq_ofNat_of_zero_le (Int.le_trans h2 h3)
     have hab : a ≤ b := by omega
     have hb : b ≤ x.length := by omega
     have h5' : b - a < x.length := by
       have := Nat.le_of_ble_eq_true h5
       simp only [Int.toNat_natCast] at this
       exact this
     have hpk : slicePicked x (some ((a : Int), t1)) (some ((b : Int), t2)) none = (List.range (b - a)).map (fun k => a + k) := StrLaws.strSliceIndices_plain hab hb
     have hme : sliceMade x t (some ((a : Int), t1)) (some ((b : Int), t2)) none = .str (slc x a b) := by
       unfold sliceMade
       rw [if_neg (by rw [hpk]; simp; omega)]
       congr 2
       exact congrArg List.toArray (StrLaws.sliced_plain x hab hb)
     refine meets_at hc (c' := .builtin "str.__getitem__" ⟨[.str x t, .ref r], []⟩) (by kernel_rfl) (by kernel_rfl) (entry_is F.entry_str_getitem) (meets_str_getitem_slice x t r (some ((a : Int), t1)) (some ((b : Int), t2)) none rfl) fun A => ⟨hs, ?_⟩
     rw [hme]
     refine ⟨?_, hr⟩
     have hl := fits_le h1
     have : (slc x a b).length ≤ x.length := by
       show (slc x a b).cps.size ≤ x.cps.size
       unfold slc
       simp
       omega
     omega
   · trivial
 · trivial
theorem says33 (a : Args) (o : Obj) : OASays (model prog w) (oCode false "str.__getitem__" a) (gO 1 a o) fun s => s.heap.get? (refArg a) = some o := by
 show OASays _ _ (match a, o with
   | ⟨[.str x t, .ref _], []⟩,⟨.type "slice", _, .fields vs, _⟩ => (match vs.toList with
     | [.int lo _, .int hi _, .none] => OA.tok (decide (lo = 0) && decide (hi = x.length)) 0 (fun _ => .str x t)
     | _ => .no)
   | _, _ => .no) _
 split
 · rename_i x t r d vs sl
   split
   · rename_i lo t1 hi t2 hv
     intro hd Γ p s R hc hP hr
     simp only [Bool.and_eq_true, decide_eq_true_eq] at hd
     obtain ⟨h2, h3⟩ := hd
     have hs := isSlice_of hP hv
     subst h2 h3
     have hpk : slicePicked x (some ((0 : Int), t1)) (some ((x.length : Int), t2)) none = (List.range (x.length - 0)).map (fun k => 0 + k) := StrLaws.strSliceIndices_plain (a := 0) (Nat.zero_le _) (Nat.le_refl _)
     have hme : sliceMade x t (some ((0 : Int), t1)) (some ((x.length : Int), t2)) none = .val (.str x t) := by
       unfold sliceMade
       rw [if_pos (by rw [hpk]; simp)]
     refine meets_at hc (c' := .builtin "str.__getitem__" ⟨[.str x t, .ref r], []⟩) (by kernel_rfl) (by kernel_rfl) (entry_is F.entry_str_getitem) (meets_str_getitem_slice x t r (some ((0 : Int), t1)) (some ((x.length : Int), t2)) none rfl) fun A => ⟨hs, ?_⟩
     rw [hme]
     exact hr
   · trivial
 · trivial
theorem slot_code {Γ : Ctx} {p : Pos} {s : Shared} {R : Result → Shared → Prop} {T : String} {name : Str} {id : String} {b : Builtin} {self : Value} {rest : List Value} (hc : Γ.code = .call (.builtin id) ⟨self :: rest, []⟩) (h : Slot T name id) (hT : s.TypeIs self T) (hb : entryFor table id = some b) (ha : argsOk id ⟨self :: rest, []⟩)
   (g : ∀ A : Around, wpAny (model prog w) A.in1 (b ⟨self :: rest, []⟩) (fun fin s' => match fin with | .done f => R (.ok f) s' | .again c' => c'.quiet = true ∧ codeAny (model prog w) A c' R s') (fun e s' => R (.error e) s') s) : wpCode (model prog w) Γ R p s :=
 codeAny_call_builtin h.plain hb (h.check _ _ _ _ _ _ _ _ hT ha (g (arOf Γ))) Γ p hc (below_goto (Γ := Γ) Γ.code)
theorem strsOf_are : ∀ {vs : List Value} {ys : List (List Nat)}, strsOf vs = some ys → ∃ zs : List Str, PyProof.Rows.StrsAre vs zs ∧ ys = zs.map (·.cps.toList)
 | [], ys, h => by cases h; exact ⟨[], .nil, rfl⟩
 | .str y t :: l, ys, h => by
   have h' : (match strsOf l with | some ys => some (y.cps.toList :: ys) | none => none) = some ys := h
   cases e : strsOf l with
   | none => rw [e] at h'; cases h'
   | some zs =>
     rw [e] at h'
     cases h'
     obtain ⟨z, h1, h2⟩ := strsOf_are e
     exact ⟨y :: z, .cons y t h1, by rw [h2]; rfl⟩
theorem str_beq (x y : Str) : (x == y) = (x.cps.toList == y.cps.toList) := by
 rw [Bool.eq_iff_iff, beq_iff_eq, beq_iff_eq]
 constructor
 · rintro rfl; rfl
 · intro h
   obtain ⟨⟨l⟩⟩ := x
   obtain ⟨⟨m⟩⟩ := y
   cases h
   rfl
theorem says34 (a : Args) (o : Obj) : OASays (model prog w) (oCode false "tuple.__contains__" a) (gO 2 a o) fun s => s.heap.get? (refArg a) = some o := by
 show OASays _ _ (match a, o with
   | ⟨[.ref _, .str x _], []⟩,⟨.type "tuple", _, .seq vs _, _⟩ => (match strsOf vs.toList with
     | some ys => OA.dec (ys.any (· == x.cps.toList))
     | none => .no)
   | _, _ => .no) _
 split
 · rename_i r x t d vs n sl
   split
   · rename_i ys hv
     intro Γ p s R hc hP hr
     obtain ⟨zs, h1, h2⟩ := strsOf_are hv
     have ht : PyProof.Rows.IsTup s.heap r vs := ⟨_, hP, rfl, _, rfl⟩
     refine slot_code hc F.slot_tuple_contains ht.typeIs F.entry_tuple_contains (F.args_tuple_contains_2 _ _) fun A => PyProof.Rows.tuple_contains_strs (ys := zs) ht h1 ?_
     have e : ys.any (· == x.cps.toList) = zs.any (· == x) := by
       rw [h2, List.any_map]
       congr 1
       funext y
       exact (str_beq y x).symm
     rw [e] at hr
     exact hr
   · trivial
 · trivial
theorem upd_same {h : Heap} {a : Nat} {o : Obj} {f g : Obj → Obj} (ho : h.get? a = some o) (e : f o = g o) : h.update a f = h.update a g := by
 obtain ⟨objs, l⟩ := h
 show (⟨objs.modify a f, l⟩ : Heap) = ⟨objs.modify a g, l⟩
 congr 1
 have hi : objs[a]? = some o := by
   have ho' : (match objs[a]? with | some ⟨_, _, .freed, _⟩ => none | o => o) = some o := ho
   split at ho'
   · cases ho'
   · exact ho'
 apply Array.ext_getElem?
 intro i
 rw [Array.getElem?_modify, Array.getElem?_modify]
 by_cases q : a = i
 · subst q
   rw [if_pos rfl, if_pos rfl, hi]
   exact congrArg some e
 · rw [if_neg q, if_neg q]
theorem idx_is {k : Int} {n : Nat} (h : idxOk k n = true) : idx k n < n ∧ seqIndex? k n = some (idx k n) ∧ Builtin.List.listFitsIndex k = true := by
 unfold idxOk at h
 simp only [Bool.and_eq_true, decide_eq_true_eq] at h
 obtain ⟨⟨⟨h1, h2⟩, h3⟩, h4⟩ := h
 have h5 : k < 2 ^ 63 := h4
 have h6 : -(2 ^ 63) ≤ k := h3
 refine ⟨?_, ?_, ?_⟩
 · unfold idx
   by_cases q : k < 0
   · simp only [q, decide_true]; omega
   · simp only [q, decide_false]; omega
 · by_cases q : k < 0
   · rw [seqIndex_neg q h1]
     congr 1
     unfold idx
     simp only [q, decide_true]
   · unfold seqIndex?
     simp only [q, if_false]
     rw [if_pos (by simp; omega)]
     congr 1
     unfold idx
     simp only [q, decide_false]
 · unfold Builtin.List.listFitsIndex
   simp only [Bool.and_eq_true, decide_eq_true_eq]
   constructor <;> omega
theorem setAt_is : ∀ (l : List Value) (i : Nat) (v : Value), setAt l i v = l.set i v
 | [], _, _ => rfl
 | x :: l, 0, v => rfl
 | x :: l, i + 1, v => by
   show x :: setAt l (i + 1 - 1) v = x :: l.set i v
   rw [Nat.add_sub_cancel, setAt_is l i v]
theorem says35 (a : Args) (o : Obj) : OASays (model prog w) (oCode false "str.__getitem__" a) (gO 3 a o) fun s => s.heap.get? (refArg a) = some o := by
 show OASays _ _ (match a, o with
   | ⟨[.str x _, .ref _], []⟩,⟨.type "slice", _, .fields vs, _⟩ => (match vs.toList with
     | [.int lo _, .none, .none] => OA.tok (fits x.length && decide (0 < lo) && decide (lo ≤ x.length)) 1 (fun t => .str (slc x lo.toNat x.length) t)
     | _ => .no)
   | _, _ => .no) _
 split
 · rename_i x t r d vs sl
   split
   · rename_i lo t1 hv
     intro hd Γ p s R hc hP hr
     simp only [Bool.and_eq_true, decide_eq_true_eq] at hd
     obtain ⟨⟨h1, h2⟩, h3⟩ := hd
     obtain ⟨a, rfl⟩ := Int.eq_ofNat_of_zero_le (Int.le_of_lt h2)
     have ha : 0 < a := by omega
     have hb : a ≤ x.length := by omega
     have hs : s.heap.IsSlice r (some ((a : Int), t1)) none none := ⟨_, hP, rfl, by
       have : vs = #[Value.int a t1, Value.none, Value.none] := Array.ext' hv
       rw [this]; rfl⟩
     have hpk : slicePicked x (some ((a : Int), t1)) none none = (List.range (x.length - a)).map (fun k => a + k) := by
       have e := StrLaws.strSliceIndices_plain (a := a) (b := x.length) (len := x.length) hb (Nat.le_refl _)
       rw [← e]
       show Builtin.Str.strSliceIndices (some (a : Int)) none 1 x.length = _
       unfold Builtin.Str.strSliceIndices
       simp only [show ((1 : Int) > 0) = True from by simp, if_true]
       congr 1
       rw [if_neg (by omega)]
       omega
     have hme : sliceMade x t (some ((a : Int), t1)) none none = .str (slc x a x.length) := by
       unfold sliceMade
       rw [if_neg (by rw [hpk]; simp; omega)]
       congr 2
       have e := StrLaws.sliced_plain x hb (Nat.le_refl _)
       rw [StrLaws.strSliceIndices_plain hb (Nat.le_refl _)] at e
       rw [hpk]
       exact congrArg List.toArray e
     refine meets_at hc (c' := .builtin "str.__getitem__" ⟨[.str x t, .ref r], []⟩) (by kernel_rfl) (by kernel_rfl) (entry_is F.entry_str_getitem) (meets_str_getitem_slice x t r (some ((a : Int), t1)) none none rfl) fun A => ⟨hs, ?_⟩
     rw [hme]
     refine ⟨?_, hr⟩
     have hl := fits_le h1
     have : (slc x a x.length).length ≤ x.length := by
       show (slc x a x.length).cps.size ≤ x.cps.size
       unfold slc
       simp
       omega
     omega
   · trivial
 · trivial
theorem says36 (a : Args) (o : Obj) : OASays (model prog w) (oCode false "list.append" a) (gO 4 a o) fun s => s.heap.get? (refArg a) = some o := by
 show OASays _ _ (match a, o with
   | ⟨[.ref _, v], []⟩,⟨.type "list", _, .seq xs _, _⟩ => OA.gen (fits xs.toList.length) 0 (some (gPush v)) (fun _ => .none)
   | _, _ => .no) _
 split
 · rename_i l v d xs n sl
   intro hd Γ p s R hc hP hr
   have hP' : s.heap.get? l = some ⟨.type "list", d, .seq xs n, sl⟩ := hP
   have hz : xs.size ≤ sizeLine := by simpa using fits_le hd
   refine slot_code hc F.slot_list_append ⟨_, hP', rfl⟩ F.entry_list_append (F.args_list_append_2 _ _) fun A => ?_
   show wpAny _ _ (updateSeq l (·.push v) >>= fun _ => ret .none) _ _ s
   refine wpAny_bind (wpAny_updateSeq hP' rfl (wpAny_pure ?_) hz (by rw [Array.size_push]; omega))
   have e : s.heap.update l (Obj.mapSeq (·.push v)) = s.heap.update l (gPush v) := upd_same hP' (by
     show (⟨_, _, .seq (xs.push v) (if (xs.push v).size == xs.size then n else n + 1), _⟩ : Obj) = ⟨_, _, .seq ⟨xs.toList ++ [v]⟩ (n + 1), _⟩
     rw [if_neg (by simp)]
     congr 2
     exact Array.ext' (by simp))
   rw [e]
   exact hr
 · trivial
theorem says37 (a : Args) (o : Obj) : OASays (model prog w) (oCode false "list.__getitem__" a) (gO 5 a o) fun s => s.heap.get? (refArg a) = some o := by
 show OASays _ _ (match a, o with
   | ⟨[.ref _, .int k _], []⟩,⟨.type "list", _, .seq xs _, _⟩ => OA.gen (idxOk k xs.toList.length) 0 none (fun _ => xs.toList.getD (idx k xs.toList.length) .none)
   | _, _ => .no) _
 split
 · rename_i l k t d xs n sl
   intro hd Γ p s R hc hP hr
   have hP' : s.heap.get? l = some ⟨.type "list", d, .seq xs n, sl⟩ := hP
   have hsz : xs.toList.length = xs.size := by simp
   rw [hsz] at hd hr
   obtain ⟨i1, i2, i3⟩ := idx_is hd
   have hx : xs[idx k xs.size]? = some (xs.toList.getD (idx k xs.size) .none) := by
     rw [List.getD_eq_getElem?_getD, Array.getElem?_toList, Array.getElem?_eq_getElem i1]; rfl
   refine slot_code hc F.slot_list_getitem ⟨_, hP', rfl⟩ F.entry_list_getitem (F.args_list_getitem_2 _ _) fun A => ?_
   show wpAny _ _ (Builtin.List.listSubscript? (.int k t) >>= _) _ _ s
   refine wpAny_bind (wpAny_listSubscript_int i3 ?_)
   cases k with
   | ofNat j =>
     have hj : idx (Int.ofNat j) xs.size = j := by
       unfold idx
       have : ¬ (Int.ofNat j < 0) := Int.not_lt.mpr (Int.natCast_nonneg j)
       simp only [this, decide_false]; rfl
     rw [hj] at hx hr
     show wpAny _ _ ((seqItemAt l j >>= fun r => pure (r.map (j, ·))) >>= _) _ _ s
     refine wpAny_bind (wpAny_bind (wpAny_seqItemAt hP' rfl (wpAny_pure ?_)))
     rw [hx]
     exact wpAny_pure hr
   | negSucc j =>
     show wpAny _ _ ((Builtin.List.listItems (.ref l) >>= fun xs => pure ((seqIndex? (Int.negSucc j) xs.size).bind fun i => xs[i]?.map (i, ·))) >>= _) _ _ s
     refine wpAny_bind (wpAny_bind ?_)
     show wpAny _ _ (seqItems? (.ref l) >>= _) _ _ s
     refine wpAny_bind (wpAny_seqItems hP' rfl (wpAny_pure (wpAny_pure ?_)))
     rw [i2]
     simp only [Option.bind_some, hx, Option.map_some]
     exact wpAny_pure hr
 · trivial
theorem says38 (a : Args) (o : Obj) : OASays (model prog w) (oCode false "list.__setitem__" a) (gO 6 a o) fun s => s.heap.get? (refArg a) = some o := by
 show OASays _ _ (match a, o with
   | ⟨[.ref _, .int k _, v], []⟩,⟨.type "list", _, .seq xs _, _⟩ => OA.gen (idxOk k xs.toList.length) 0 (some (gSet (idx k xs.toList.length) v)) (fun _ => .none)
   | _, _ => .no) _
 split
 · rename_i l k t v d xs n sl
   intro hd Γ p s R hc hP hr
   have hP' : s.heap.get? l = some ⟨.type "list", d, .seq xs n, sl⟩ := hP
   have hsz : xs.toList.length = xs.size := by simp
   rw [hsz] at hd hr
   obtain ⟨i1, i2, i3⟩ := idx_is hd
   refine slot_code hc F.slot_list_setitem ⟨_, hP', rfl⟩ F.entry_list_setitem (F.args_list_setitem_3 _ _ _) fun A => ?_
   show wpAny _ _ (Builtin.List.listSubscript? (.int k t) >>= _) _ _ s
   refine wpAny_bind (wpAny_listSubscript_int i3 ?_)
   have hx : xs[idx k xs.size]? = some (xs.toList.getD (idx k xs.size) .none) := by
     rw [List.getD_eq_getElem?_getD, Array.getElem?_toList, Array.getElem?_eq_getElem i1]; rfl
   have e : s.heap.update l (Obj.mapSeq (·.setIfInBounds (idx k xs.size) v)) = s.heap.update l (gSet (idx k xs.size) v) := upd_same hP' (by
     show (⟨_, _, .seq (xs.setIfInBounds (idx k xs.size) v) (if (xs.setIfInBounds (idx k xs.size) v).size == xs.size then n else n + 1), _⟩ : Obj) = ⟨_, _, .seq ⟨setAt xs.toList (idx k xs.size) v⟩ n, _⟩
     rw [if_pos (by simp), setAt_is]
     congr 2
     exact Array.ext' (by simp))
   have fin : wpAny (model prog w) A.in1 (do setSeqItemAt l (idx k xs.size) v; ret .none) (fun fin s' => match fin with | .done f => R (.ok f) s' | .again c' => c'.quiet = true ∧ codeAny (model prog w) A c' R s') (fun e s' => R (.error e) s') s := by
     refine wpAny_bind (wpAny_setSeqItemAt hP' rfl (wpAny_pure ?_))
     rw [e]
     exact hr
   cases k with
   | ofNat j =>
     have hj : idx (Int.ofNat j) xs.size = j := by
       unfold idx
       have : ¬ (Int.ofNat j < 0) := Int.not_lt.mpr (Int.natCast_nonneg j)
       simp only [this, decide_false]; rfl
     rw [hj] at hx fin
     show wpAny _ _ ((seqItemAt l j >>= fun r => pure (r.map (j, ·))) >>= _) _ _ s
     refine wpAny_bind (wpAny_bind (wpAny_seqItemAt hP' rfl (wpAny_pure ?_)))
     rw [hx]
     exact fin
   | negSucc j =>
     show wpAny _ _ ((Builtin.List.listItems (.ref l) >>= fun xs => pure ((seqIndex? (Int.negSucc j) xs.size).bind fun i => xs[i]?.map (i, ·))) >>= _) _ _ s
     refine wpAny_bind (wpAny_bind ?_)
     show wpAny _ _ (seqItems? (.ref l) >>= _) _ _ s
     refine wpAny_bind (wpAny_seqItems hP' rfl (wpAny_pure (wpAny_pure ?_)))
     rw [i2]
     simp only [Option.bind_some, hx, Option.map_some]
     exact fin
 · trivial
theorem strIt_39 (a : Args) (o : Obj) (hty : o.cls = .type "str_ascii_iterator") : OASays (model prog w) (oCode false "str_ascii_iterator.__next__" a) (strIt a o) fun s => s.heap.get? (refArg a) = some o := by
 unfold strIt
 split
 · rename_i r c d vs sl
   split
   · rename_i x t i u hv
     intro hd Γ p s R hc hP hr
     simp only [Bool.and_eq_true, decide_eq_true_eq] at hd
     obtain ⟨⟨h1, h2⟩, h3⟩ := hd
     obtain ⟨i, rfl⟩ := Int.eq_ofNat_of_zero_le h2
     have hu : u = 0 := Nat.eq_of_beq_eq_true h3
     subst hu
     have hlt : i < x.cps.toList.length := Nat.le_of_ble_eq_true h1
     have hvs : vs = #[Value.str x t, Value.int i 0] := Array.ext' hv
     subst hvs
     have hP' : s.heap.get? r = some ⟨c, d, .fields #[Value.str x t, Value.int i 0], sl⟩ := hP
     have hx : x.cps[i]? = some (x.cps.toList.getD i 0) := by
       rw [List.getD_eq_getElem?_getD, Array.getElem?_toList, Array.getElem?_eq_getElem (by simpa using hlt)]; rfl
     refine slot_code hc F.slot_str_ascii_iterator_next ⟨_, hP', hty⟩ F.entry_str_ascii_iterator_next (F.args_str_ascii_iterator_next_1 _) fun A => ?_
     show wpAny _ _ (field (.ref r) 0 >>= _) _ _ s
     refine wpAny_bind (wpAny_field hP' rfl (x := .str x t) rfl ?_)
     show wpAny _ _ (field (.ref r) 1 >>= _) _ _ s
     refine wpAny_bind (wpAny_field hP' rfl (x := .int i 0) rfl ?_)
     simp only [Int.toNat_natCast, hx]
     refine wpAny_bind (wpAny_setField hP' rfl (by simp) (wpAny_bind (wpAny_mkStr (wpAny_pure ?_) (by show 1 ≤ sizeLine; decide))))
     have e : s.heap.update r (Obj.mapFields (·.setIfInBounds 1 (rawInt ((i : Int) + 1)))) = s.heap.update r (gItS x t i c d sl) := upd_same hP' (by
       show (⟨_, _, .fields (#[Value.str x t, Value.int i 0].setIfInBounds 1 (rawInt ((i : Int) + 1))), _⟩ : Obj) = ⟨_, _, .fields #[Value.str x t, .int ((i + 1 : Nat) : Int) 0], _⟩
       simp [rawInt])
     simp only [Int.toNat_natCast] at hr
     have hr' : R (.ok (.ret (.str ⟨#[x.cps.toList.getD i 0]⟩ s.toks))) { s with heap := s.heap.update r (gItS x t i c d sl), toks := s.toks + 1 } := hr
     rw [← e] at hr'
     exact hr'
   · trivial
 · trivial
theorem says39 (a : Args) (o : Obj) : OASays (model prog w) (oCode false "str_ascii_iterator.__next__" a) (gO 7 a o) fun s => s.heap.get? (refArg a) = some o := by
 show OASays _ _ (match o.cls with | .type "str_ascii_iterator" => strIt a o | _ => .no) _
 split
 · rename_i h
   exact strIt_39 a o h
 · trivial
theorem strIt_40 (a : Args) (o : Obj) (hty : o.cls = .type "str_iterator") : OASays (model prog w) (oCode false "str_iterator.__next__" a) (strIt a o) fun s => s.heap.get? (refArg a) = some o := by
 unfold strIt
 split
 · rename_i r c d vs sl
   split
   · rename_i x t i u hv
     intro hd Γ p s R hc hP hr
     simp only [Bool.and_eq_true, decide_eq_true_eq] at hd
     obtain ⟨⟨h1, h2⟩, h3⟩ := hd
     obtain ⟨i, rfl⟩ := Int.eq_ofNat_of_zero_le h2
     have hu : u = 0 := Nat.eq_of_beq_eq_true h3
     subst hu
     have hlt : i < x.cps.toList.length := Nat.le_of_ble_eq_true h1
     have hvs : vs = #[Value.str x t, Value.int i 0] := Array.ext' hv
     subst hvs
     have hP' : s.heap.get? r = some ⟨c, d, .fields #[Value.str x t, Value.int i 0], sl⟩ := hP
     have hx : x.cps[i]? = some (x.cps.toList.getD i 0) := by
       rw [List.getD_eq_getElem?_getD, Array.getElem?_toList, Array.getElem?_eq_getElem (by simpa using hlt)]; rfl
     refine slot_code hc F.slot_str_iterator_next ⟨_, hP', hty⟩ F.entry_str_iterator_next (F.args_str_iterator_next_1 _) fun A => ?_
     show wpAny _ _ (field (.ref r) 0 >>= _) _ _ s
     refine wpAny_bind (wpAny_field hP' rfl (x := .str x t) rfl ?_)
     show wpAny _ _ (field (.ref r) 1 >>= _) _ _ s
     refine wpAny_bind (wpAny_field hP' rfl (x := .int i 0) rfl ?_)
     simp only [Int.toNat_natCast, hx]
     refine wpAny_bind (wpAny_setField hP' rfl (by simp) (wpAny_bind (wpAny_mkStr (wpAny_pure ?_) (by show 1 ≤ sizeLine; decide))))
     have e : s.heap.update r (Obj.mapFields (·.setIfInBounds 1 (rawInt ((i : Int) + 1)))) = s.heap.update r (gItS x t i c d sl) := upd_same hP' (by
       show (⟨_, _, .fields (#[Value.str x t, Value.int i 0].setIfInBounds 1 (rawInt ((i : Int) + 1))), _⟩ : Obj) = ⟨_, _, .fields #[Value.str x t, .int ((i + 1 : Nat) : Int) 0], _⟩
       simp [rawInt])
     simp only [Int.toNat_natCast] at hr
     have hr' : R (.ok (.ret (.str ⟨#[x.cps.toList.getD i 0]⟩ s.toks))) { s with heap := s.heap.update r (gItS x t i c d sl), toks := s.toks + 1 } := hr
     rw [← e] at hr'
     exact hr'
   · trivial
 · trivial
theorem says40 (a : Args) (o : Obj) : OASays (model prog w) (oCode false "str_iterator.__next__" a) (gO 8 a o) fun s => s.heap.get? (refArg a) = some o := by
 show OASays _ _ (match o.cls with | .type "str_iterator" => strIt a o | _ => .no) _
 split
 · rename_i h
   exact strIt_40 a o h
 · trivial
theorem orc_ok (V : YV) (hp : V.prog = prog) (hw : V.w = w) : OrcOk V OO := by
 subst hp hw
 intro j args
 have small : ∀ o P, j < 32 → OASays (model V.prog V.w) (oCode (getN noOrc orcs j).1.1 (getN noOrc orcs j).1.2 args) ((getN noOrc orcs j).2 args o) P := by
   intro o P _
   match j with
   | 0 => exact says0 args o
   | 1 => exact says1 args o
   | 2 => exact says2 args o
   | 3 => exact says3 args o
   | 4 => exact says4 args o
   | 5 => exact says5 args o
   | 6 => exact says6 args o
   | 7 => exact says7 args o
   | 8 => exact says8 args o
   | 9 => exact says9 args o
   | 10 => exact says10 args o
   | 11 => exact says11 args o
   | 12 => exact says12 args o
   | 13 => exact says13 args o
   | 14 => exact says14 args o
   | 15 => exact says15 args o
   | 16 => exact says16 args o
   | n + 17 =>
     have : getN noOrc orcs (n + 17) = noOrc := by
       show getN noOrc [] (n + 17 - 1 - 1 - 1 - 1 - 1 - 1 - 1 - 1 - 1 - 1 - 1 - 1 - 1 - 1 - 1 - 1 - 1) = noOrc
       rfl
     rw [this]
     trivial
 by_cases hj : j < 32
 · have e : OO j = getN noOrc orcs j := by
     unfold OO
     rw [show Nat.blt j 32 = true from Nat.ble_eq_true_of_le hj]
   rw [e]
   exact ⟨fun _ => small _ _ hj, fun q => absurd hj q⟩
 · have e : OO j = getN noOrc orcsO (j - 32) := by
     unfold OO
     cases q : Nat.blt j 32 with
     | true => exact absurd (Nat.le_of_ble_eq_true q) hj
     | false => rfl
   rw [e]
   refine ⟨fun h => absurd h hj, fun _ o => ?_⟩
   match j - 32 with
   | 0 => exact says32 args o
   | 1 => exact says33 args o
   | 2 => exact says34 args o
   | 3 => exact says35 args o
   | 4 => exact says36 args o
   | 5 => exact says37 args o
   | 6 => exact says38 args o
   | 7 => exact says39 args o
   | 8 => exact says40 args o
   | n + 9 =>
     have : getN noOrc orcsO (n + 9) = noOrc := by
       show getN noOrc [] (n + 9 - 1 - 1 - 1 - 1 - 1 - 1 - 1 - 1 - 1) = noOrc
       rfl
     rw [this]
     trivial
end
end Mine
end
section
namespace Mine
open PySem PySem.W
open PySem.Sem (wp finPost)
open PySem.W.X (KT)
noncomputable abbrev prg : Program := PySem.Challenge.pw_mq0384_01
noncomputable abbrev W3 (w : World) (a b c : Bool) : World := ((w.withFollow "comprehension-iter-twice" c).withFollow "fstring-hands-on-the-str" b).withFollow "special-get-raises" a
noncomputable abbrev HpW (w : World) (h : Heap) (L : List (Nat × Obj)) : Prop := Hp 797 (kt w.params) h L
noncomputable abbrev vW (w : World) (s : Shared) (B : Nat) (L : List (Nat × Obj)) : YV := vAt prg w 797 (kt w.params) s (L.map (·.1)) L.length B
noncomputable abbrev vWv (w : World) (vs : List (Value × Value)) (s : Shared) (B : Nat) (L : List (Nat × Obj)) : YV := vAtV prg w 797 (kt w.params) s (L.map (·.1)) L.length B vs
noncomputable def rnv (w : World) (vs : List (Value × Value)) (s : Shared) (B : Nat) (L : List (Nat × Obj)) (n : Nat) (Γ : Ctx) (p : Pos) (κ : List Kf) (t : Sem Fin) (tr : Nat) (ds : List (Bool × Bool)) : Option Out :=
 run (vWv w vs s B L) OO n Γ p κ t (mkT L 0 .nil) L.length 0 tr ds [] [] [] []
noncomputable abbrev rn (w : World) (s : Shared) (B : Nat) (L : List (Nat × Obj)) (n : Nat) (Γ : Ctx) (p : Pos) (κ : List Kf) (t : Sem Fin) (tr : Nat) (ds : List (Bool × Bool)) : Option Out := rnv w [] s B L n Γ p κ t tr ds
theorem zipA_vs {w : World} {vs : List (Value × Value)} {s : Shared} {B : Nat} {L : List (Nat × Obj)} : ∀ (js : List Nat) (os : List Obj), zipA (vWv w vs s B L) js os = zipA (vW w s B L) js os
 | [], _ => by simp [zipA]
 | _ :: _, [] => by simp [zipA]
 | j :: js, o :: os => by
   show (adr (vWv w vs s B L) j, o) :: zipA (vWv w vs s B L) js os = _
   rw [zipA_vs js os]; rfl
theorem length_le_of_nodup : ∀ (n : Nat) (l : List Nat), l.Nodup → (∀ a ∈ l, a < n) → l.length ≤ n
 | 0, [], _, _ => Nat.le_refl _
 | 0, a :: _, _, h => absurd (h a (.head _)) (Nat.not_lt_zero _)
 | n + 1, l, hd, h => by
   have h1 : (l.filter (· ≠ n)).length ≤ n := length_le_of_nodup n _ (hd.filter _) fun a ha => by
     have := List.mem_filter.mp ha
     have h2 := h a this.1
     have h3 : a ≠ n := by simpa using this.2
     omega
   have h4 : l.length ≤ (l.filter (· ≠ n)).length + 1 := by
     clear h h1
     induction l with
     | nil => simp
     | cons a l ih =>
       have hd' := List.nodup_cons.mp hd
       by_cases e : a = n
       · subst e
         have : l.filter (· ≠ a) = l := List.filter_eq_self.mpr fun x hx => by
           have : x ≠ a := fun q => hd'.1 (q ▸ hx)
           simpa using this
         have e2 : (a :: l).filter (· ≠ a) = l := by rw [List.filter_cons_of_neg (by simp), this]
         rw [e2]; simp
       · have := ih hd'.2
         rw [List.filter_cons_of_pos (by simpa using e)]
         simp only [List.length_cons]
         omega
   omega
theorem size_split {n₁ : Nat} {kt : KT} {h : Heap} {L : List (Nat × Obj)} (H : Hp n₁ kt h L) : ∃ B, h.objs.size = B + L.length := by
 have := length_le_of_nodup h.objs.size (L.map (·.1)) H.sep fun a ha => by
   obtain ⟨x, hx, rfl⟩ := List.mem_map.mp ha
   exact Heap.lt_size (H.own x hx)
 rw [List.length_map] at this
 exact ⟨h.objs.size - L.length, by omega⟩
section
variable {w : World} {R : Result → Shared → Prop} {Γ : Ctx} {p : Pos} {κ : List Kf} {t : Sem Fin} {s : Shared} {L : List (Nat × Obj)}
theorem sgt {vs : List (Value × Value)} (H : HpW w s.heap L) (n tr : Nat) (ds : List (Bool × Bool)) (js : List Nat) (os : Nat → List Obj) (v : Nat → Vw) (b : Bool) (hds : ∀ d ∈ ds, d.1 = d.2) (hw : wholeT L 0 .nil = true) (hjs : js.Nodup)
   (e : ∀ B, chk js (rnv w vs s B L n Γ p κ t tr ds) = owed (rnv w vs s B L n Γ p κ t tr ds) ((os B).map some) (v B) b)
   (fin : ∀ B s', s.heap.objs.size = B + L.length → HpW w s'.heap (zipA (vW w s B L) js (os B)) → Beh (L.map (·.1)) s s' → s'.toks = s.toks + tiO (rnv w vs s B L n Γ p κ t tr ds) →
     Means (model prg w) R (cfΓ (rnv w vs s B L n Γ p κ t tr ds)) (cfp (rnv w vs s B L n Γ p κ t tr ds)) (cfκ (rnv w vs s B L n Γ p κ t tr ds)) (cft (rnv w vs s B L n Γ p κ t tr ds)) s') (hvs : ∀ v ∈ vs, v.1 = v.2) :
   Means (model prg w) R Γ p κ t s := by
 obtain ⟨B, hB⟩ := size_split H
 exact seg (fun V h1 h2 => orc_ok V h1 h2) H hB hw hvs hds hjs (r := rnv w vs s B L n Γ p κ t tr ds) rfl (e B) fun s' h1 h2 h3 => fin B s' hB (zipA_vs js (os B) ▸ h1) h2 h3
theorem sg {vs : List (Value × Value)} (H : HpW w s.heap L) (n tr : Nat) (ds : List (Bool × Bool)) (js : List Nat) (os : Nat → List Obj) (v : Nat → Vw) (b : Bool) (hds : ∀ d ∈ ds, d.1 = d.2) (hw : wholeT L 0 .nil = true) (hjs : js.Nodup)
   (e : ∀ B, chk js (rnv w vs s B L n Γ p κ t tr ds) = owed (rnv w vs s B L n Γ p κ t tr ds) ((os B).map some) (v B) b)
   (fin : ∀ B s', s.heap.objs.size = B + L.length → HpW w s'.heap (zipA (vW w s B L) js (os B)) → Beh (L.map (·.1)) s s' →
     Means (model prg w) R (cfΓ (rnv w vs s B L n Γ p κ t tr ds)) (cfp (rnv w vs s B L n Γ p κ t tr ds)) (cfκ (rnv w vs s B L n Γ p κ t tr ds)) (cft (rnv w vs s B L n Γ p κ t tr ds)) s') (hvs : ∀ v ∈ vs, v.1 = v.2) :
   Means (model prg w) R Γ p κ t s := sgt H n tr ds js os v b hds hw hjs e (fun B s' hB h1 h2 _ => fin B s' hB h1 h2) hvs
theorem vw_of {js : List Nat} {r : Option Out} {os : List (Option Obj)} {v : Vw} {b : Bool} (e : chk js r = owed r os v b) : ∃ o, r = some o ∧ o.vw = v ∧ o.κ.isEmpty = b := by
 cases r with
 | none => cases e
 | some o =>
   have e' : some (lft o.xs, lft o.bs, lft o.ss, lft o.es, js.map o.T.get, o.vw, o.κ.isEmpty) = some (rgt o.xs, rgt o.bs, rgt o.ss, rgt o.es, os, v, b) := e
   simp only [Option.some.injEq, Prod.mk.injEq] at e'
   exact ⟨o, rfl, e'.2.2.2.2.2.1, e'.2.2.2.2.2.2⟩
theorem vw_ok {o : Out} {f : Flow} (h : o.vw = .ok f) : o.t = .pure (.done f) := by
 unfold Out.vw at h
 split at h
 · cases h; assumption
 · split at h <;> cases h
 all_goals cases h
theorem vw_err {o : Out} {e : Value} (h : o.vw = .err e) : o.t = .raise e := by
 unfold Out.vw at h
 split at h
 · cases h
 · split at h <;> cases h
 · cases h; assumption
 all_goals cases h
theorem vw_again {o : Out} {Γ' : Ctx} (h : o.vw = .again Γ') : ∃ c, o.t = .pure (.again c) ∧ c.quiet = true ∧ Γ' = o.Γ.goto c := by
 unfold Out.vw at h
 split at h
 · cases h
 · rename_i c e
   split at h
   · rename_i q; cases h; exact ⟨c, e, q, rfl⟩
   · cases h
 all_goals cases h
theorem vw_call {o : Out} {Γ' : Ctx} (h : o.vw = .call Γ') : ∃ c hd g l k, o.t = .call c hd g l k ∧ Γ' = o.Γ.enter c hd o.p := by
 unfold Out.vw at h
 split at h
 · cases h
 · split at h <;> cases h
 · cases h
 · rename_i c hd g l k e; cases h; exact ⟨c, hd, g, l, k, e, rfl⟩
 · cases h
theorem sg_ok {vs : List (Value × Value)} (H : HpW w s.heap L) (n tr : Nat) (ds : List (Bool × Bool)) (js : List Nat) (os : Nat → List Obj) (f : Nat → Flow) (hds : ∀ d ∈ ds, d.1 = d.2) (hw : wholeT L 0 .nil = true) (hjs : js.Nodup)
   (e : ∀ B, chk js (rnv w vs s B L n Γ p κ t tr ds) = owed (rnv w vs s B L n Γ p κ t tr ds) ((os B).map some) (.ok (f B)) true)
   (fin : ∀ B s', s.heap.objs.size = B + L.length → HpW w s'.heap (zipA (vW w s B L) js (os B)) → Beh (L.map (·.1)) s s' → R (.ok (f B)) s') (hvs : ∀ v ∈ vs, v.1 = v.2) :
   Means (model prg w) R Γ p κ t s :=
 sg (hvs := hvs) H n tr ds js os (fun B => .ok (f B)) true hds hw hjs e fun B s' hB h1 h2 => by
   obtain ⟨o, eo, hv, hk⟩ := vw_of (e B)
   rw [eo]
   show Means (model prg w) R o.Γ o.p o.κ o.t s'
   rw [List.isEmpty_iff.mp hk, vw_ok hv]
   exact fin B s' hB h1 h2
theorem sg_err {vs : List (Value × Value)} (H : HpW w s.heap L) (n tr : Nat) (ds : List (Bool × Bool)) (js : List Nat) (os : Nat → List Obj) (f : Nat → Value) (hds : ∀ d ∈ ds, d.1 = d.2) (hw : wholeT L 0 .nil = true) (hjs : js.Nodup)
   (e : ∀ B, chk js (rnv w vs s B L n Γ p κ t tr ds) = owed (rnv w vs s B L n Γ p κ t tr ds) ((os B).map some) (.err (f B)) true)
   (fin : ∀ B s', s.heap.objs.size = B + L.length → HpW w s'.heap (zipA (vW w s B L) js (os B)) → Beh (L.map (·.1)) s s' → R (.error (f B)) s') (hvs : ∀ v ∈ vs, v.1 = v.2) :
   Means (model prg w) R Γ p κ t s :=
 sg (hvs := hvs) H n tr ds js os (fun B => .err (f B)) true hds hw hjs e fun B s' hB h1 h2 => by
   obtain ⟨o, eo, hv, hk⟩ := vw_of (e B)
   rw [eo]
   show Means (model prg w) R o.Γ o.p o.κ o.t s'
   rw [List.isEmpty_iff.mp hk, vw_err hv]
   show wp _ _ (Sem.raise _) _ _ _ _
   rw [Sem.wp_raise]
   exact fin B s' hB h1 h2
theorem sg_again {vs : List (Value × Value)} (H : HpW w s.heap L) (n tr : Nat) (ds : List (Bool × Bool)) (js : List Nat) (os : Nat → List Obj) (Γ' : Nat → Ctx) (hds : ∀ d ∈ ds, d.1 = d.2) (hw : wholeT L 0 .nil = true) (hjs : js.Nodup)
   (e : ∀ B, chk js (rnv w vs s B L n Γ p κ t tr ds) = owed (rnv w vs s B L n Γ p κ t tr ds) ((os B).map some) (.again (Γ' B)) true)
   (fin : ∀ B s' p', s.heap.objs.size = B + L.length → HpW w s'.heap (zipA (vW w s B L) js (os B)) → Beh (L.map (·.1)) s s' → wpCode (model prg w) (Γ' B) R p' s') (hvs : ∀ v ∈ vs, v.1 = v.2) :
   Means (model prg w) R Γ p κ t s :=
 sg (hvs := hvs) H n tr ds js os (fun B => .again (Γ' B)) true hds hw hjs e fun B s' hB h1 h2 => by
   obtain ⟨o, eo, hv, hk⟩ := vw_of (e B)
   rw [eo]
   obtain ⟨c, ht, hq, hΓ⟩ := vw_again hv
   show Means (model prg w) R o.Γ o.p o.κ o.t s'
   rw [List.isEmpty_iff.mp hk, ht]
   show wp _ _ (Sem.pure (PySem.Fin.again c)) _ _ _ _
   rw [Sem.wp_pure]
   refine ⟨hq, ?_⟩
   rw [← hΓ]
   exact fin B s' o.p hB h1 h2
noncomputable def ansT (r : Option Out) (res : Result) : Sem Fin := match r with
 | some o => match o.t with
   | .call _ _ _ _ k => k res
   | t => t
 | none => .unsupported ""
theorem sg_call {vs : List (Value × Value)} (H : HpW w s.heap L) (n tr : Nat) (ds : List (Bool × Bool)) (js : List Nat) (os : Nat → List Obj) (Γ' : Nat → Ctx) (b : Bool) (hds : ∀ d ∈ ds, d.1 = d.2) (hw : wholeT L 0 .nil = true) (hjs : js.Nodup)
   (e : ∀ B, chk js (rnv w vs s B L n Γ p κ t tr ds) = owed (rnv w vs s B L n Γ p κ t tr ds) ((os B).map some) (.call (Γ' B)) b)
   (fin : ∀ B s' p', s.heap.objs.size = B + L.length → HpW w s'.heap (zipA (vW w s B L) js (os B)) → Beh (L.map (·.1)) s s' →
     wpCode (model prg w) (Γ' B) (fun r s'' => Means (model prg w) R (cfΓ (rnv w vs s B L n Γ p κ t tr ds)) (cfp (rnv w vs s B L n Γ p κ t tr ds)) (cfκ (rnv w vs s B L n Γ p κ t tr ds)) (ansT (rnv w vs s B L n Γ p κ t tr ds) r) s'') p' s') (hvs : ∀ v ∈ vs, v.1 = v.2) :
   Means (model prg w) R Γ p κ t s :=
 sg (hvs := hvs) H n tr ds js os (fun B => .call (Γ' B)) b hds hw hjs e fun B s' hB h1 h2 => by
   have z := fin B s' (cfp (rnv w vs s B L n Γ p κ t tr ds)) hB h1 h2
   obtain ⟨o, eo, hv, hk⟩ := vw_of (e B)
   rw [eo] at z ⊢
   obtain ⟨c, hd, g, l, k, ht, hΓ⟩ := vw_call hv
   have za : ∀ r, ansT (some o) r = k r := fun r => by unfold ansT; simp only [ht]
   simp only [za] at z
   show Means (model prg w) R o.Γ o.p o.κ o.t s'
   rw [ht]
   show wp _ _ (Sem.call c hd g l k) _ _ _ _
   rw [Sem.wp_call, ← hΓ]
   exact z
theorem code_of {c : Code} (hc : Γ.code = c) (h : Means (model prg w) R Γ p [] (den c) s) : wpCode (model prg w) Γ R p s := by
 rw [wpCode_iff_wp, model_den, hc]
 exact h
end
structure Mn (M : Model) (R : Result → Shared → Prop) (Γ : Ctx) (p : Pos) (κ : List Kf) (t : Sem Fin) (s : Shared) : Prop where
 out : Means M R Γ p κ t s
section
variable {w : World} {R : Result → Shared → Prop} {Γ : Ctx} {p : Pos} {κ : List Kf} {t : Sem Fin} {s : Shared} {L : List (Nat × Obj)}
theorem sv_ok {vs : List (Value × Value)} (H : HpW w s.heap L) (n tr : Nat) (ds : List (Bool × Bool)) (js : List Nat) (os : Nat → List Obj) (f : Nat → Flow) (hds : ∀ d ∈ ds, d.1 = d.2) (hw : wholeT L 0 .nil = true) (hjs : js.Nodup)
   (e : ∀ B, chk js (rnv w vs s B L n Γ p κ t tr ds) = owed (rnv w vs s B L n Γ p κ t tr ds) ((os B).map some) (.ok (f B)) true)
   (fin : ∀ B s', s.heap.objs.size = B + L.length → HpW w s'.heap (zipA (vW w s B L) js (os B)) → Beh (L.map (·.1)) s s' → R (.ok (f B)) s') (hvs : ∀ v ∈ vs, v.1 = v.2) :
   Mn (model prg w) R Γ p κ t s := ⟨sg_ok (hvs := hvs) H n tr ds js os f hds hw hjs e fin⟩
theorem sn_ok (H : HpW w s.heap L) (n tr : Nat) (ds : List (Bool × Bool)) (js : List Nat) (os : Nat → List Obj) (f : Nat → Flow) (hds : ∀ d ∈ ds, d.1 = d.2) (hw : wholeT L 0 .nil = true) (hjs : js.Nodup)
   (e : ∀ B, chk js (rn w s B L n Γ p κ t tr ds) = owed (rn w s B L n Γ p κ t tr ds) ((os B).map some) (.ok (f B)) true)
   (fin : ∀ B s', s.heap.objs.size = B + L.length → HpW w s'.heap (zipA (vW w s B L) js (os B)) → Beh (L.map (·.1)) s s' → R (.ok (f B)) s') :
   Mn (model prg w) R Γ p κ t s := sv_ok H n tr ds js os f hds hw hjs e fin (fun _ h => nomatch h)
theorem sv_err {vs : List (Value × Value)} (H : HpW w s.heap L) (n tr : Nat) (ds : List (Bool × Bool)) (js : List Nat) (os : Nat → List Obj) (f : Nat → Value) (hds : ∀ d ∈ ds, d.1 = d.2) (hw : wholeT L 0 .nil = true) (hjs : js.Nodup)
   (e : ∀ B, chk js (rnv w vs s B L n Γ p κ t tr ds) = owed (rnv w vs s B L n Γ p κ t tr ds) ((os B).map some) (.err (f B)) true)
   (fin : ∀ B s', s.heap.objs.size = B + L.length → HpW w s'.heap (zipA (vW w s B L) js (os B)) → Beh (L.map (·.1)) s s' → R (.error (f B)) s') (hvs : ∀ v ∈ vs, v.1 = v.2) :
   Mn (model prg w) R Γ p κ t s := ⟨sg_err (hvs := hvs) H n tr ds js os f hds hw hjs e fin⟩
theorem sn_err (H : HpW w s.heap L) (n tr : Nat) (ds : List (Bool × Bool)) (js : List Nat) (os : Nat → List Obj) (f : Nat → Value) (hds : ∀ d ∈ ds, d.1 = d.2) (hw : wholeT L 0 .nil = true) (hjs : js.Nodup)
   (e : ∀ B, chk js (rn w s B L n Γ p κ t tr ds) = owed (rn w s B L n Γ p κ t tr ds) ((os B).map some) (.err (f B)) true)
   (fin : ∀ B s', s.heap.objs.size = B + L.length → HpW w s'.heap (zipA (vW w s B L) js (os B)) → Beh (L.map (·.1)) s s' → R (.error (f B)) s') :
   Mn (model prg w) R Γ p κ t s := sv_err H n tr ds js os f hds hw hjs e fin (fun _ h => nomatch h)
theorem sv_again {vs : List (Value × Value)} (H : HpW w s.heap L) (n tr : Nat) (ds : List (Bool × Bool)) (js : List Nat) (os : Nat → List Obj) (Γ' : Nat → Ctx) (hds : ∀ d ∈ ds, d.1 = d.2) (hw : wholeT L 0 .nil = true) (hjs : js.Nodup)
   (e : ∀ B, chk js (rnv w vs s B L n Γ p κ t tr ds) = owed (rnv w vs s B L n Γ p κ t tr ds) ((os B).map some) (.again (Γ' B)) true)
   (fin : ∀ B s' p', s.heap.objs.size = B + L.length → HpW w s'.heap (zipA (vW w s B L) js (os B)) → Beh (L.map (·.1)) s s' → wpCode (model prg w) (Γ' B) R p' s') (hvs : ∀ v ∈ vs, v.1 = v.2) :
   Mn (model prg w) R Γ p κ t s := ⟨sg_again (hvs := hvs) H n tr ds js os Γ' hds hw hjs e fin⟩
theorem sn_again (H : HpW w s.heap L) (n tr : Nat) (ds : List (Bool × Bool)) (js : List Nat) (os : Nat → List Obj) (Γ' : Nat → Ctx) (hds : ∀ d ∈ ds, d.1 = d.2) (hw : wholeT L 0 .nil = true) (hjs : js.Nodup)
   (e : ∀ B, chk js (rn w s B L n Γ p κ t tr ds) = owed (rn w s B L n Γ p κ t tr ds) ((os B).map some) (.again (Γ' B)) true)
   (fin : ∀ B s' p', s.heap.objs.size = B + L.length → HpW w s'.heap (zipA (vW w s B L) js (os B)) → Beh (L.map (·.1)) s s' → wpCode (model prg w) (Γ' B) R p' s') :
   Mn (model prg w) R Γ p κ t s := sv_again H n tr ds js os Γ' hds hw hjs e fin (fun _ h => nomatch h)
theorem sv_call {vs : List (Value × Value)} (H : HpW w s.heap L) (n tr : Nat) (ds : List (Bool × Bool)) (js : List Nat) (os : Nat → List Obj) (Γ' : Nat → Ctx) (b : Bool) (hds : ∀ d ∈ ds, d.1 = d.2) (hw : wholeT L 0 .nil = true) (hjs : js.Nodup)
   (e : ∀ B, chk js (rnv w vs s B L n Γ p κ t tr ds) = owed (rnv w vs s B L n Γ p κ t tr ds) ((os B).map some) (.call (Γ' B)) b)
   (fin : ∀ B s' p', s.heap.objs.size = B + L.length → HpW w s'.heap (zipA (vW w s B L) js (os B)) → Beh (L.map (·.1)) s s' →
     wpCode (model prg w) (Γ' B) (fun r s'' => Mn (model prg w) R (cfΓ (rnv w vs s B L n Γ p κ t tr ds)) (cfp (rnv w vs s B L n Γ p κ t tr ds)) (cfκ (rnv w vs s B L n Γ p κ t tr ds)) (ansT (rnv w vs s B L n Γ p κ t tr ds) r) s'') p' s') (hvs : ∀ v ∈ vs, v.1 = v.2) :
   Mn (model prg w) R Γ p κ t s :=
 ⟨sg_call (hvs := hvs) H n tr ds js os Γ' b hds hw hjs e fun B s' p' h1 h2 h3 => wpCode_mono (fun _ _ h => h.out) (fin B s' p' h1 h2 h3)⟩
theorem sn_call (H : HpW w s.heap L) (n tr : Nat) (ds : List (Bool × Bool)) (js : List Nat) (os : Nat → List Obj) (Γ' : Nat → Ctx) (b : Bool) (hds : ∀ d ∈ ds, d.1 = d.2) (hw : wholeT L 0 .nil = true) (hjs : js.Nodup)
   (e : ∀ B, chk js (rn w s B L n Γ p κ t tr ds) = owed (rn w s B L n Γ p κ t tr ds) ((os B).map some) (.call (Γ' B)) b)
   (fin : ∀ B s' p', s.heap.objs.size = B + L.length → HpW w s'.heap (zipA (vW w s B L) js (os B)) → Beh (L.map (·.1)) s s' →
     wpCode (model prg w) (Γ' B) (fun r s'' => Mn (model prg w) R (cfΓ (rn w s B L n Γ p κ t tr ds)) (cfp (rn w s B L n Γ p κ t tr ds)) (cfκ (rn w s B L n Γ p κ t tr ds)) (ansT (rn w s B L n Γ p κ t tr ds) r) s'') p' s') :
   Mn (model prg w) R Γ p κ t s := sv_call H n tr ds js os Γ' b hds hw hjs e fin (fun _ h => nomatch h)
theorem code_mn {c : Code} (hc : Γ.code = c) (h : Mn (model prg w) R Γ p [] (den c) s) : wpCode (model prg w) Γ R p s := code_of hc h.out
theorem dsN : ∀ d ∈ ([] : List (Bool × Bool)), d.1 = d.2 := fun _ h => nomatch h
theorem dsC {x y : Bool} {l : List (Bool × Bool)} (e : x = y) (h : ∀ d ∈ l, d.1 = d.2) : ∀ d ∈ (x, y) :: l, d.1 = d.2 := fun d hd => by
 rcases List.mem_cons.mp hd with rfl | hd
 · exact e
 · exact h d hd
end
end Mine
end
section
namespace Mine
open PySem PySem.W
noncomputable def ioObj (d : Nat) : Obj := ⟨.ref 610, some d, .plain, #[]⟩
noncomputable def ioDict (H : Nat → Int) (K : Nat → Nat) (buf : Str) (tb : Nat) (nl : Value) (pos : Int) (tp ep : Nat) : Obj := ⟨.type "dict", none, .dict #[⟨H 0,.str ⟨#[95,83,116,114,105,110,103,73,79,95,95,110,101,119,108,105,110,101]⟩ (K 0), nl⟩,⟨H 1,.str ⟨#[95,83,116,114,105,110,103,73,79,95,95,98,117,102]⟩ (K 1), .str buf tb⟩,⟨H 2,.str ⟨#[95,83,116,114,105,110,103,73,79,95,95,112,111,115]⟩ (K 2), .int pos tp⟩] ep, #[]⟩
structure Fm where
 b : List Stmt
 e : Env
 p : Pos
structure Lp where
 t : Expr
 i : Value
 b : List Stmt
 o : List Stmt
 e : Env
 p : Pos
noncomputable def Fm.c (x : Fm) : Code × Pos := (.func x.b x.e, x.p)
noncomputable def Lp.f (x : Lp) : Code × Pos := (.forLoop x.t x.i x.b x.o x.e, x.p)
noncomputable def Lp.w (x : Lp) : Code × Pos := (.whileLoop x.t x.b x.o x.e, x.p)
structure S0 where
 law : Fm
 v : Lp
 m : Lp
 r : Lp
 q : Pos
noncomputable def S0.l (x : S0) : List (Code × Pos) := [x.r.f, x.m.f, x.v.f, x.law.c, (.builtin "claim.caller" {}, x.q)]
structure S1 where
 s : S0
 rd : Fm
 sp : Fm
noncomputable def S1.l (x : S1) : List (Code × Pos) := x.sp.c :: x.rd.c :: x.s.l
structure S2 where
 s : S1
 u : Nat
 v : Nat
 p : Pos
 q : Pos
noncomputable def S2.l (x : S2) : List (Code × Pos) := (.builtin "list.extend.loop" ⟨[.ref x.u, .ref x.v, .none], []⟩, x.p) :: (.builtin "type.__call__" ⟨[.type "list", .ref x.v], []⟩, x.q) :: x.s.l
structure S3 where
 s : S2
 nx : Fm
 gt : Fm
noncomputable def S3.l (x : S3) : List (Code × Pos) := x.gt.c :: x.nx.c :: x.s.l
structure S4 where
 s : S3
 rt : Fm
 w : Lp
noncomputable def S4.l (x : S4) : List (Code × Pos) := x.w.w :: x.rt.c :: x.s.l
noncomputable def nxt (buf : Str) (q : Nat) : Str := ⟨((buf.cps.toList.drop q).take 1).toArray⟩
noncomputable def adv (buf : Str) (q : Nat) : Nat := min (q + 1) buf.length
noncomputable abbrev cRead (io t1 : Nat) : Code := .call (.ref 556) ⟨[.ref io, .int 1 t1], []⟩
noncomputable abbrev gRead (io t1 : Nat) (x : S4) : Ctx := ⟨cRead io t1, none, none, x.l, none⟩
section
variable {w : World} {a b c : Bool} {s : Shared} {io ioD t1 tb tp ep q : Nat} {H : Nat → Int} {K : Nat → Nat} {buf : Str} {nl : Value} {x : S4} {p : Pos}
noncomputable abbrev lRead (io ioD : Nat) (H : Nat → Int) (K : Nat → Nat) (buf : Str) (tb : Nat) (nl : Value) (q : Int) (tp ep : Nat) : List (Nat × Obj) := [(io, ioObj ioD), (ioD, ioDict H K buf tb nl q tp ep)]
noncomputable def ReadPost (w : World) (io ioD : Nat) (H : Nat → Int) (K : Nat → Nat) (buf : Str) (tb : Nat) (nl : Value) (q ep : Nat) (s : Shared) (r : Result) (s' : Shared) : Prop :=
 ∃ tk' tp', r = .ok (.ret (.str (nxt buf q) tk')) ∧ HpW w s'.heap (lRead io ioD H K buf tb nl (adv buf q) tp' ep) ∧ Beh [io, ioD] s s'
theorem fits_of {n : Nat} (h : n ≤ 1000) : fits n = true := Nat.ble_eq_true_of_le (Nat.le_trans h (by decide))
theorem slc_nxt {buf : Str} {q : Nat} : slc buf q (q + 1) = nxt buf q := by
 unfold slc nxt
 rw [Nat.add_sub_cancel_left]
theorem read1 (hH : HpW (W3 w a b c) s.heap (lRead io ioD H K buf tb nl q tp ep)) (hf : buf.length ≤ 1000) (hq : q + 1 < buf.length) :
   wpCode (model prg (W3 w a b c)) (gRead io t1 x) (ReadPost (W3 w a b c) io ioD H K buf tb nl q ep s) p s := by
 refine code_mn (c := cRead io t1) rfl (sn_ok hH 375 2170301649704978882491148050867722150074262701036021388306081625806472012111862903694879920928898864480554867001092223193303323871437793765755036492848495244559486831745554198705054303106552090501068151078026044115249184996165049107851731178081442468720256688536401299333648228037430022162696674505571518189675894233887332960378087556781158591750670378684382096443623673881927540124942336 [(false, false), (false, false), (fits buf.length, true), (decide ((q : Int) ≥ (buf.length : Int)), false), (true, true), (true, true), (decide ((q : Int) + 1 < (buf.length : Int)), true), (true, true), (fits buf.length && decide (0 ≤ (q : Int)) && decide ((q : Int) ≤ (q : Int) + 1) && decide ((q : Int) + 1 ≤ (buf.length : Int)) && Nat.blt (((q : Int) + 1).toNat - (q : Int).toNat) buf.length, true)] [0,1] (fun _ => [ioObj ioD, ioDict H K buf tb nl ((q : Int) + 1) (s.toks + 20) ep]) (fun _ => .ret (.str (slc buf (q : Int).toNat ((q : Int) + 1).toNat) (s.toks + 25))) ?_ rfl (by decide) ?_ ?_)
 · intro d hd
   have hfit := fits_of hf
   have hb : Nat.blt (((q : Int) + 1).toNat - (q : Int).toNat) buf.length = true := Nat.ble_eq_true_of_le (by omega)
   simp only [List.mem_cons, List.not_mem_nil, or_false] at hd
   rcases hd with rfl | rfl | rfl | rfl | rfl | rfl | rfl | rfl | rfl <;> first | rfl | exact hfit | (simp only [hfit, hb, Bool.true_and, Bool.and_true, Bool.and_eq_true, decide_eq_true_eq, decide_eq_false_iff_not]; omega)
 · cases a <;> (intro B; kernel_rfl)
 · intro B s' hB h1 h2
   refine ⟨s.toks + 25, s.toks + 20, ?_, ?_, h2⟩
   · rw [show ((q : Int) + 1).toNat = q + 1 from by omega, show (q : Int).toNat = q from by omega, slc_nxt]
   · have e : ((adv buf q : Nat) : Int) = (q : Int) + 1 := by unfold adv; omega
     rw [e]; exact h1
theorem read2 (hH : HpW (W3 w a b c) s.heap (lRead io ioD H K buf tb nl q tp ep)) (hf : buf.length ≤ 1000) (hq : q + 1 = buf.length) (h0 : 0 < q) :
   wpCode (model prg (W3 w a b c)) (gRead io t1 x) (ReadPost (W3 w a b c) io ioD H K buf tb nl q ep s) p s := by
 refine code_mn (c := cRead io t1) rfl (sn_ok hH 361 2021250920095461311276208656716833030874154252033700596826227033330567192390433422936946080000045601251705463929973908978520212681792003985523062033825053244502256115644613492682874484515797569194800802751359416695988477859615529155768954075945216301786339722391910356643391267014638802001877922256806153282736580728596850280940668094693318676432891373757153276074937654698573824 [(false, false), (false, false), (fits buf.length, true), (decide ((q : Int) ≥ (buf.length : Int)), false), (true, true), (true, true), (decide ((q : Int) + 1 < (buf.length : Int)), false), (fits buf.length && decide (0 ≤ (q : Int)) && decide ((q : Int) ≤ (buf.length : Int)) && decide ((buf.length : Int) ≤ (buf.length : Int)) && Nat.blt ((buf.length : Int).toNat - (q : Int).toNat) buf.length, true)] [0,1] (fun _ => [ioObj ioD, ioDict H K buf tb nl ((buf.length : Int)) (s.toks + 16) ep]) (fun _ => .ret (.str (slc buf (q : Int).toNat (buf.length : Int).toNat) (s.toks + 23))) ?_ rfl (by decide) ?_ ?_)
 · intro d hd
   have hfit := fits_of hf
   have hb : Nat.blt ((buf.length : Int).toNat - (q : Int).toNat) buf.length = true := Nat.ble_eq_true_of_le (by omega)
   simp only [List.mem_cons, List.not_mem_nil, or_false] at hd
   rcases hd with rfl | rfl | rfl | rfl | rfl | rfl | rfl | rfl <;> first | rfl | exact hfit | (simp only [hfit, hb, Bool.true_and, Bool.and_true, Bool.and_eq_true, decide_eq_true_eq, decide_eq_false_iff_not]; omega)
 · cases a <;> (intro B; kernel_rfl)
 · intro B s' hB h1 h2
   refine ⟨s.toks + 23, s.toks + 16, ?_, ?_, h2⟩
   · rw [show (buf.length : Int).toNat = q + 1 from by omega, show (q : Int).toNat = q from by omega, slc_nxt]
   · have e : ((adv buf q : Nat) : Int) = (buf.length : Int) := by unfold adv; omega
     rw [e]; exact h1
theorem read3 (hH : HpW (W3 w a b c) s.heap (lRead io ioD H K buf tb nl q tp ep)) (hf : buf.length ≤ 1000) (hq : q + 1 = buf.length) (h0 : q = 0) :
   wpCode (model prg (W3 w a b c)) (gRead io t1 x) (ReadPost (W3 w a b c) io ioD H K buf tb nl q ep s) p s := by
 refine code_mn (c := cRead io t1) rfl (sn_ok hH 361 2026097491199440399214728429011445672105597641467726547931079922226885162425879001472039186069523027225960156654858527521511504211406632960294254287674372110544175392465756123495480878503884217270862408888696435343783878291529573922859521697061015484948144337392783769966135420727062439327132295896577364617169553427163885200233659347071289266702493301301020742534321247038996480 [(false, false), (false, false), (fits buf.length, true), (decide ((q : Int) ≥ (buf.length : Int)), false), (true, true), (true, true), (decide ((q : Int) + 1 < (buf.length : Int)), false), (decide ((q : Int) = 0) && decide ((buf.length : Int) = (buf.length : Int)), true)] [0,1] (fun _ => [ioObj ioD, ioDict H K buf tb nl ((buf.length : Int)) (s.toks + 16) ep]) (fun _ => .ret (.str buf tb)) ?_ rfl (by decide) ?_ ?_)
 · intro d hd
   have hfit := fits_of hf
   simp only [List.mem_cons, List.not_mem_nil, or_false] at hd
   rcases hd with rfl | rfl | rfl | rfl | rfl | rfl | rfl | rfl <;> first | rfl | exact hfit | (simp only [Bool.and_eq_true, decide_eq_true_eq, decide_eq_false_iff_not]; omega) | (simp; omega)
 · cases a <;> (intro B; kernel_rfl)
 · intro B s' hB h1 h2
   refine ⟨tb, s.toks + 16, ?_, ?_, h2⟩
   · have : nxt buf q = buf := by
       subst h0
       unfold nxt
       have : buf.cps.toList.length = 1 := by have : buf.length = buf.cps.size := rfl; simp; omega
       rw [List.drop_zero, List.take_of_length_le (by omega)]
     rw [this]
   · have e : ((adv buf q : Nat) : Int) = (buf.length : Int) := by unfold adv; omega
     rw [e]; exact h1
theorem read4 (hH : HpW (W3 w a b c) s.heap (lRead io ioD H K buf tb nl q tp ep)) (hf : buf.length ≤ 1000) (hq : q = buf.length) :
   wpCode (model prg (W3 w a b c)) (gRead io t1 x) (ReadPost (W3 w a b c) io ioD H K buf tb nl q ep s) p s := by
 refine code_mn (c := cRead io t1) rfl (sn_ok hH 273 14543822673096630914674265090405713057661178206435872342518571139996975434472955620644712830261726060335276247737322897741049668243668672416813670008079556305745095855948800410732436044864292156451788184696497348047969687405748989015914304416379537273969823633889820672 [(false, false), (false, false), (fits buf.length, true), (decide ((q : Int) ≥ (buf.length : Int)), true)] [0,1] (fun _ => [ioObj ioD, ioDict H K buf tb nl ((q : Int)) (tp) ep]) (fun _ => .ret (.str ⟨#[]⟩ (s.toks + 18))) ?_ rfl (by decide) ?_ ?_)
 · intro d hd
   have hfit := fits_of hf
   simp only [List.mem_cons, List.not_mem_nil, or_false] at hd
   rcases hd with rfl | rfl | rfl | rfl <;> first | rfl | exact hfit | (simp only [decide_eq_true_eq, decide_eq_false_iff_not]; omega)
 · cases a <;> (intro B; kernel_rfl)
 · intro B s' hB h1 h2
   refine ⟨s.toks + 18, tp, ?_, ?_, h2⟩
   · have : nxt buf q = ⟨#[]⟩ := by
       subst hq
       unfold nxt
       rw [List.drop_of_length_le (by show buf.cps.toList.length ≤ buf.cps.size; simp)]
       rfl
     rw [this]
   · have e : ((adv buf q : Nat) : Int) = (q : Int) := by unfold adv; omega
     rw [e]; exact h1
theorem read_spec (hH : HpW (W3 w a b c) s.heap (lRead io ioD H K buf tb nl q tp ep)) (hf : buf.length ≤ 1000) (hq : q ≤ buf.length) :
   wpCode (model prg (W3 w a b c)) (gRead io t1 x) (ReadPost (W3 w a b c) io ioD H K buf tb nl q ep s) p s := by
 by_cases h1 : q + 1 < buf.length
 · exact read1 hH hf h1
 · by_cases h2 : q = buf.length
   · exact read4 hH hf h2
   · by_cases h3 : q = 0
     · exact read3 hH hf (by omega) h3
     · exact read2 hH hf (by omega) (by omega)
end
end Mine
end
section
namespace Mine
open PySem PySem.W
structure Lx where
 io : Nat
 ioD : Nat
 self : Nat
 sd : Nat
 pb : Nat
 fs : Nat
 Hi : Nat → Int
 Ki : Nat → Nat
 Hs : Nat → Int
 Ks : Nat → Nat
 Cs : Nat → Nat
 buf : Str
 tb : Nat
 nl : Value
 cm : Str
 epi : Nat
 eps : Nat
structure Rt where
 L : Nat
 H : Nat → Int
 K : Nat → Nat
 ep : Nat
noncomputable abbrev sWC : Str := ⟨#[97,98,99,100,102,101,103,104,105,106,107,108,109,110,111,112,113,114,115,116,117,118,119,120,121,122,65,66,67,68,69,70,71,72,73,74,75,76,77,78,79,80,81,82,83,84,85,86,87,88,89,90,48,49,50,51,52,53,54,55,56,57,95,223,224,225,226,227,228,229,230,231,232,233,234,235,236,237,238,239,240,241,242,243,244,245,246,248,249,250,251,252,253,254,255,192,193,194,195,196,197,198,199,200,201,202,203,204,205,206,207,208,209,210,211,212,213,214,216,217,218,219,220,221,222]⟩
noncomputable abbrev sWS : Str := ⟨#[32,9,13,10]⟩
noncomputable abbrev sQU : Str := ⟨#[39,34]⟩
noncomputable abbrev sES : Str := ⟨#[92]⟩
noncomputable abbrev sEQ : Str := ⟨#[34]⟩
noncomputable abbrev sNC : Str := ⟨#[110,101,120,116,99,104,97,114]⟩
noncomputable def shObj (sd : Nat) : Obj := ⟨.ref 745, some sd, .plain, #[]⟩
noncomputable def sdDict (X : Lx) (st : Value) (tok : Str) (tt : Nat) (ln : Int) (tl : Nat) : Obj := ⟨.type "dict", none, .dict #[⟨X.Hs 0,.str ⟨#[105,110,115,116,114,101,97,109]⟩ (X.Ks 0), .ref X.io⟩,⟨X.Hs 1,.str ⟨#[105,110,102,105,108,101]⟩ (X.Ks 1), .none⟩,⟨X.Hs 2,.str ⟨#[112,111,115,105,120]⟩ (X.Ks 2), .bool true⟩,⟨X.Hs 3,.str ⟨#[101,111,102]⟩ (X.Ks 3), .none⟩,⟨X.Hs 4,.str ⟨#[99,111,109,109,101,110,116,101,114,115]⟩ (X.Ks 4), .str X.cm (X.Cs 4)⟩,⟨X.Hs 5,.str ⟨#[119,111,114,100,99,104,97,114,115]⟩ (X.Ks 5), .str sWC (X.Cs 5)⟩,⟨X.Hs 6,.str ⟨#[119,104,105,116,101,115,112,97,99,101]⟩ (X.Ks 6), .str sWS (X.Cs 6)⟩,⟨X.Hs 7,.str ⟨#[119,104,105,116,101,115,112,97,99,101,95,115,112,108,105,116]⟩ (X.Ks 7), .bool true⟩,⟨X.Hs 8,.str ⟨#[113,117,111,116,101,115]⟩ (X.Ks 8), .str sQU (X.Cs 8)⟩,⟨X.Hs 9,.str ⟨#[101,115,99,97,112,101]⟩ (X.Ks 9), .str sES (X.Cs 9)⟩,⟨X.Hs 10,.str ⟨#[101,115,99,97,112,101,100,113,117,111,116,101,115]⟩ (X.Ks 10), .str sEQ (X.Cs 10)⟩,⟨X.Hs 11,.str ⟨#[115,116,97,116,101]⟩ (X.Ks 11), st⟩,⟨X.Hs 12,.str ⟨#[112,117,115,104,98,97,99,107]⟩ (X.Ks 12), .ref X.pb⟩,⟨X.Hs 13,.str ⟨#[108,105,110,101,110,111]⟩ (X.Ks 13), .int ln tl⟩,⟨X.Hs 14,.str ⟨#[100,101,98,117,103]⟩ (X.Ks 14), .int 0 (X.Cs 14)⟩,⟨X.Hs 15,.str ⟨#[116,111,107,101,110]⟩ (X.Ks 15), .str tok tt⟩,⟨X.Hs 16,.str ⟨#[102,105,108,101,115,116,97,99,107]⟩ (X.Ks 16), .ref X.fs⟩,⟨X.Hs 17,.str ⟨#[115,111,117,114,99,101]⟩ (X.Ks 17), .none⟩,⟨X.Hs 18,.str ⟨#[95,112,117,110,99,116,117,97,116,105,111,110,95,99,104,97,114,115]⟩ (X.Ks 18), .str ⟨#[]⟩ (X.Cs 18)⟩] X.eps, #[]⟩
noncomputable def rtFrame (self : Nat) (Y : Rt) (qd : Bool) (es : Str) (te : Nat) : Option (Int × Nat × Value) → Obj
 | none => ⟨.type "frame", none, .dict #[⟨Y.H 0,.str ⟨#[115,101,108,102]⟩ (Y.K 0), .ref self⟩,⟨Y.H 1,.str ⟨#[113,117,111,116,101,100]⟩ (Y.K 1), .bool qd⟩,⟨Y.H 2,.str ⟨#[101,115,99,97,112,101,100,115,116,97,116,101]⟩ (Y.K 2), .str es te⟩] Y.ep, #[]⟩
 | some (h, k, v) => ⟨.type "frame", none, .dict #[⟨Y.H 0,.str ⟨#[115,101,108,102]⟩ (Y.K 0), .ref self⟩,⟨Y.H 1,.str ⟨#[113,117,111,116,101,100]⟩ (Y.K 1), .bool qd⟩,⟨Y.H 2,.str ⟨#[101,115,99,97,112,101,100,115,116,97,116,101]⟩ (Y.K 2), .str es te⟩,⟨h, .str sNC k, v⟩] (Y.ep + 1), #[]⟩
noncomputable abbrev lIo (X : Lx) (q : Int) (tp : Nat) : List (Nat × Obj) := [(X.io, ioObj X.ioD), (X.ioD, ioDict X.Hi X.Ki X.buf X.tb X.nl q tp X.epi)]
noncomputable abbrev lSh (X : Lx) (q : Int) (tp : Nat) (st : Value) (tok : Str) (tt : Nat) (ln : Int) (tl : Nat) : List (Nat × Obj) :=
 [(X.io, ioObj X.ioD), (X.ioD, ioDict X.Hi X.Ki X.buf X.tb X.nl q tp X.epi), (X.self, shObj X.sd), (X.sd, sdDict X st tok tt ln tl)]
noncomputable abbrev lT (X : Lx) (Y : Rt) (q : Int) (tp : Nat) (st : Value) (tok : Str) (tt : Nat) (ln : Int) (tl : Nat) (qd : Bool) (es : Str) (te : Nat) (nc : Option (Int × Nat × Value)) : List (Nat × Obj) :=
 [(X.io, ioObj X.ioD), (X.ioD, ioDict X.Hi X.Ki X.buf X.tb X.nl q tp X.epi), (X.self, shObj X.sd), (X.sd, sdDict X st tok tt ln tl), (Y.L, rtFrame X.self Y qd es te nc)]
noncomputable def rtDef : Dft := clsDef 24 6
noncomputable def envRT (L : Nat) : Env := { scope := rtDef.2.2, locals := L, globals := 3, cells := [], qual := ⟨#[115,104,108,101,120,46,114,101,97,100,95,116,111,107,101,110,46,60,108,111,99,97,108,115,62,46]⟩, func := some 713, code := .ref 712, frame := some L, builtins := 0 }
noncomputable def whl : Option Stmt → Expr × List Stmt × List Stmt
 | some (.While t b o _) => (t, b, o)
 | _ => (.Constant .none 0 ⟨0,0,0,0⟩, [], [])
noncomputable def rtW : Expr × List Stmt × List Stmt := whl (nth rtDef.2.1 2)
noncomputable def cLoop (L : Nat) : Code := .whileLoop rtW.1 rtW.2.1 rtW.2.2 (envRT L)
noncomputable def gLoop (L : Nat) (rt : Fm) (x : S3) : Ctx := ⟨cLoop L, none, none, rt.c :: x.l, none⟩
noncomputable def s4Of (L : Nat) (rt : Fm) (x : S3) (p : Pos) : S4 := ⟨x, rt, ⟨rtW.1,.none, rtW.2.1, rtW.2.2, envRT L, p⟩⟩
theorem Beh.trans {as bs : List Nat} {s s' s'' : Shared} (h : Beh as s s') (g : Beh bs s' s'') (hb : ∀ a ∈ bs, a ∈ as) : Beh as s s'' :=
 ⟨fun b o e n => g.keep b o (h.keep b o e n) fun q => n (hb b q), g.gens.trans h.gens, g.drawn.trans h.drawn, g.os.trans h.os⟩
theorem Beh.trans_new {as bs : List Nat} {s s' s'' : Shared} (h : Beh as s s') (g : Beh bs s' s'') (hb : ∀ a ∈ bs, a ∈ as ∨ s.heap.objs.size ≤ a) : Beh as s s'' :=
 ⟨fun b o e n => g.keep b o (h.keep b o e n) fun q => (hb b q).elim n fun l => absurd (Heap.lt_size e) (Nat.not_lt.mpr l), g.gens.trans h.gens, g.drawn.trans h.drawn, g.os.trans h.os⟩
theorem Beh.refl (as : List Nat) (s : Shared) : Beh as s s := ⟨fun _ _ e _ => e, rfl, rfl, rfl⟩
theorem Hp.join {n₁ : Nat} {kt : PySem.W.X.KT} {s s' : Shared} {A A' C : List (Nat × Obj)} (H : Hp n₁ kt s.heap (A ++ C)) (H' : Hp n₁ kt s'.heap A') (B : Beh (A.map (·.1)) s s') (e : A'.map (·.1) = A.map (·.1)) : Hp n₁ kt s'.heap (A' ++ C) := by
 have sep := H.sep
 rw [List.map_append] at sep
 refine ⟨H'.top, fun x hx => ?_, ?_, fun x hx => ?_, H'.big⟩
 · rcases List.mem_append.mp hx with hx | hx
   · exact H'.own x hx
   · refine B.keep _ _ (H.own x (List.mem_append_right _ hx)) fun hm => ?_
     exact (List.nodup_append.mp sep).2.2 x.1 hm x.1 (List.mem_map_of_mem hx) rfl
 · rw [List.map_append, e]; exact sep
 · rcases List.mem_append.mp hx with hx | hx
   · exact H'.low x hx
   · exact H.low x (List.mem_append_right _ hx)
theorem Hp.part {n₁ : Nat} {kt : PySem.W.X.KT} {h : Heap} {A C : List (Nat × Obj)} (H : Hp n₁ kt h (A ++ C)) : Hp n₁ kt h A :=
 ⟨H.top, fun x hx => H.own x (List.mem_append_left _ hx), by have := H.sep; rw [List.map_append] at this; exact (List.nodup_append.mp this).1, fun x hx => H.low x (List.mem_append_left _ hx), H.big⟩
end Mine
end
section
namespace Mine
open PySem PySem.W
noncomputable abbrev keysT (X : Lx) (Y : Rt) : List Nat := [X.io, X.ioD, X.self, X.sd, Y.L]
noncomputable abbrev NcT := Option (Int × Nat × Value)
noncomputable def r1 (w : World) (s : Shared) (B : Nat) (X : Lx) (Y : Rt) (q : Int) (tp : Nat) (st : Value) (tok : Str) (tt : Nat) (ln : Int) (tl : Nat) (qd : Bool) (es : Str) (te : Nat) (nc : NcT) (rt : Fm) (x : S3) (p : Pos) : Option Out :=
 rn w s B (lT X Y q tp st tok tt ln tl qd es te nc) 109 (gLoop Y.L rt x) p [] (den (cLoop Y.L)) 91564643979306845891507800964635694304159762184067006923015386380437838922621905880892623207984551910580556508663885823866409471443141 [(true, true)]
noncomputable def Cont (w : World) (R : Result → Shared → Prop) (X : Lx) (Y : Rt) (rt : Fm) (x : S3) (s : Shared) (q : Nat) (st tok : Str) (qd : Bool) (es : Str) : Prop :=
 ∀ s' p' tp ts tt (ln : Int) tl te h k v, HpW w s'.heap (lT X Y q tp (.str st ts) tok tt ln tl qd es te (some (h, k, v))) → Beh (keysT X Y) s s' → wpCode (model prg w) (gLoop Y.L rt x) R p' s'
noncomputable def stV : Option Str → Nat → Value
 | none, _ => .none
 | some s, t => .str s t
noncomputable def Brk (w : World) (R : Result → Shared → Prop) (X : Lx) (Y : Rt) (s : Shared) (q : Nat) (st : Option Str) (tok : Str) (qd : Bool) (es : Str) : Prop :=
 ∀ s' tp ts tt (ln : Int) tl te h k v, HpW w s'.heap (lT X Y q tp (stV st ts) tok tt ln tl qd es te (some (h, k, v))) → Beh (keysT X Y) s s' → R (.ok .next) s'
section
variable {w : World} {a b c : Bool} {s : Shared} {X : Lx} {Y : Rt} {q tp tt tl te : Nat} {st : Value} {tok es : Str} {ln : Int} {qd : Bool} {nc : NcT} {rt : Fm} {x : S3} {p : Pos} {R : Result → Shared → Prop}
theorem turn_start {ch : Str} (H : HpW (W3 w a b c) s.heap (lT X Y q tp st tok tt ln tl qd es te nc)) (hf : X.buf.length ≤ 1000) (hq : q ≤ X.buf.length) (hc : nxt X.buf q = ch)
   (K : ∀ B s' tk tp', HpW (W3 w a b c) s'.heap (lT X Y (adv X.buf q : Nat) tp' st tok tt ln tl qd es te nc) → Beh (keysT X Y) s s' →
     Mn (model prg (W3 w a b c)) R (cfΓ (r1 (W3 w a b c) s B X Y q tp st tok tt ln tl qd es te nc rt x p)) (cfp (r1 (W3 w a b c) s B X Y q tp st tok tt ln tl qd es te nc rt x p)) (cfκ (r1 (W3 w a b c) s B X Y q tp st tok tt ln tl qd es te nc rt x p)) (ansT (r1 (W3 w a b c) s B X Y q tp st tok tt ln tl qd es te nc rt x p) (.ok (.ret (.str ch tk)))) s') :
   wpCode (model prg (W3 w a b c)) (gLoop Y.L rt x) R p s := by
 subst hc
 refine code_mn (c := cLoop Y.L) rfl (sn_call H 109 91564643979306845891507800964635694304159762184067006923015386380437838922621905880892623207984551910580556508663885823866409471443141 [(true, true)] [0,1,2,3,4] (fun _ => [ioObj X.ioD, ioDict X.Hi X.Ki X.buf X.tb X.nl q tp X.epi, shObj X.sd, sdDict X st tok tt ln tl, rtFrame X.self Y qd es te nc]) (fun _ => gRead X.io (s.toks + 6) (s4Of Y.L rt x ⟨587,27,587,48⟩)) true ?_ ?_ (by decide) ?_ ?_)
 · intro d hd
   simp only [List.mem_cons, List.not_mem_nil, or_false] at hd
   rw [hd]
 · cases nc <;> rfl
 · cases a <;> cases nc <;> (intro B; kernel_rfl)
 · intro B s1 p1 hB h1 b1
   refine wpCode_mono (fun r s2 hr => ?_) (read_spec (Hp.part (A := lIo X q tp) (C := [(X.self, shObj X.sd), (X.sd, sdDict X st tok tt ln tl), (Y.L, rtFrame X.self Y qd es te nc)]) h1) hf hq)
   obtain ⟨tk', tp', e, h2, b2⟩ := hr
   rw [e]
   exact K B s2 tk' tp' (Hp.join (A := lIo X q tp) (A' := lIo X (adv X.buf q : Nat) tp') (C := [(X.self, shObj X.sd), (X.sd, sdDict X st tok tt ln tl), (Y.L, rtFrame X.self Y qd es te nc)]) h1 h2 b2 rfl) (Beh.trans b1 b2 (by intro z hz; simp only [List.mem_cons, List.not_mem_nil, or_false] at hz ⊢; rcases hz with h | h <;> simp [h]))
end
end Mine
end
section
namespace Mine
open PySem PySem.W
section
variable {w : World} {a b c : Bool} {s : Shared} {X : Lx} {Y : Rt} {q tp ts tt tl te k k₀ t0 : Nat} {tr : List Nat} {h₀ : Int} {v₀ : Value} {tok es : Str} {ln : Int} {qd : Bool} {rt : Fm} {x : S3} {p : Pos} {R : Result → Shared → Prop}
theorem t_sp_eof_A (H : HpW (W3 w a b c) s.heap (lT X Y q tp (.str ⟨#[32]⟩ ts) ⟨#[]⟩ tt ln tl false es te none)) (hf : X.buf.length ≤ 1000) (hq : q ≤ X.buf.length) (hc : nxt X.buf q = ⟨#[]⟩)  (K : Brk (W3 w a b c) R X Y s (adv X.buf q) none ⟨#[]⟩ false es) :
   wpCode (model prg (W3 w a b c)) (gLoop Y.L rt x) R p s := by
 refine turn_start H hf hq hc fun B s1 tk tp1 H1 b1 => ?_
 refine sn_ok H1 117 2686185553885932296921299791145050723668159497778929792955742523986025367296282950056018315370618138068482028843562053161285 [(false, false), (false, false), (true, true), (true, true)] [0,1,2,3,4] (fun _ => [ioObj X.ioD, ioDict X.Hi X.Ki X.buf X.tb X.nl (adv X.buf q : Nat) tp1 X.epi, shObj X.sd, sdDict X .none ⟨#[]⟩ tt ln tl, rtFrame X.self Y false es te (some ((reduceHash ((W3 w a b c).params.strHash sNC.cps)), s1.toks, (.str ⟨#[]⟩ tk)))]) (fun _ => .next) ?_ rfl (by decide) ?_ ?_
 · exact dsC rfl (dsC rfl (dsC rfl (dsC rfl dsN)))
 · cases a <;> (intro B2; kernel_rfl)
 · exact fun B2 s2 _ h2 b2 => K s2 tp1 0 _ _ _ _ _ _ _ h2 (Beh.trans b1 b2 fun _ z => z)
theorem t_sp_nl_A (H : HpW (W3 w a b c) s.heap (lT X Y q tp (.str ⟨#[32]⟩ ts) ⟨#[]⟩ tt ln tl false es te none)) (hf : X.buf.length ≤ 1000) (hq : q ≤ X.buf.length) (hc : nxt X.buf q = ⟨#[10]⟩)  (K : Cont (W3 w a b c) R X Y rt x s (adv X.buf q) ⟨#[32]⟩ ⟨#[]⟩ false es) :
   wpCode (model prg (W3 w a b c)) (gLoop Y.L rt x) R p s := by
 refine turn_start H hf hq hc fun B s1 tk tp1 H1 b1 => ?_
 refine sn_again H1 230 9729764148475968392652717219819170392425769522845257752379977711130427705739516695090684187089192419956931214379819302088001098773837480981358280242990172783706496541112460545746706425463107227352081626397321386747210254381286629730157651729685036732778828101 [(true, true), (true, true), (false, false), (true, true), (true, true), (true, true), (false, false), (true, true)] [0,1,2,3,4] (fun _ => [ioObj X.ioD, ioDict X.Hi X.Ki X.buf X.tb X.nl (adv X.buf q : Nat) tp1 X.epi, shObj X.sd, sdDict X (.str ⟨#[32]⟩ ts) ⟨#[]⟩ tt (ln + 1) (s1.toks + 4), rtFrame X.self Y false es te (some ((reduceHash ((W3 w a b c).params.strHash sNC.cps)), s1.toks, (.str ⟨#[10]⟩ tk)))]) (fun _ => gLoop Y.L rt x) ?_ rfl (by decide) ?_ ?_
 · exact dsC rfl (dsC rfl (dsC rfl (dsC rfl (dsC rfl (dsC rfl (dsC rfl (dsC rfl dsN)))))))
 · cases a <;> (intro B2; kernel_rfl)
 · exact fun B2 s2 p2 _ h2 b2 => K s2 p2 _ _ _ _ _ _ _ _ _ h2 (Beh.trans b1 b2 fun _ z => z)
theorem t_sp_ws_A (H : HpW (W3 w a b c) s.heap (lT X Y q tp (.str ⟨#[32]⟩ ts) ⟨#[]⟩ tt ln tl false es te none)) (hf : X.buf.length ≤ 1000) (hq : q ≤ X.buf.length) (hc : nxt X.buf q = ⟨#[k]⟩) (d0 : (([k] == ([10] : List Nat))) = false) (d4 : (hasS sWS ⟨#[k]⟩) = true) (K : Cont (W3 w a b c) R X Y rt x s (adv X.buf q) ⟨#[32]⟩ ⟨#[]⟩ false es) :
   wpCode (model prg (W3 w a b c)) (gLoop Y.L rt x) R p s := by
 refine turn_start H hf hq hc fun B s1 tk tp1 H1 b1 => ?_
 refine sn_again H1 183 24219388378380621313509879980070655336637018282688036445200323252225393528840995097888253696191404982400217837280488877762142146153658886085408253162794180022056778317285514680123126953285625189781829 [(([k] == ([10] : List Nat)), false), (false, false), (true, true), (true, true), (hasS sWS ⟨#[k]⟩, true), (false, false), (true, true)] [0,1,2,3,4] (fun _ => [ioObj X.ioD, ioDict X.Hi X.Ki X.buf X.tb X.nl (adv X.buf q : Nat) tp1 X.epi, shObj X.sd, sdDict X (.str ⟨#[32]⟩ ts) ⟨#[]⟩ tt ln tl, rtFrame X.self Y false es te (some ((reduceHash ((W3 w a b c).params.strHash sNC.cps)), s1.toks, (.str ⟨#[k]⟩ tk)))]) (fun _ => gLoop Y.L rt x) ?_ rfl (by decide) ?_ ?_
 · exact dsC d0 (dsC rfl (dsC rfl (dsC rfl (dsC d4 (dsC rfl (dsC rfl dsN))))))
 · cases a <;> (intro B2; kernel_rfl)
 · exact fun B2 s2 p2 _ h2 b2 => K s2 p2 _ _ _ _ _ _ _ _ _ h2 (Beh.trans b1 b2 fun _ z => z)
theorem t_sp_sq_A (H : HpW (W3 w a b c) s.heap (lT X Y q tp (.str ⟨#[32]⟩ ts) ⟨#[]⟩ tt ln tl false es te none)) (hf : X.buf.length ≤ 1000) (hq : q ≤ X.buf.length) (hc : nxt X.buf q = ⟨#[39]⟩) (d5 : (hasS X.cm ⟨#[39]⟩) = false) (K : Cont (W3 w a b c) R X Y rt x s (adv X.buf q) ⟨#[39]⟩ ⟨#[]⟩ false es) :
   wpCode (model prg (W3 w a b c)) (gLoop Y.L rt x) R p s := by
 refine turn_start H hf hq hc fun B s1 tk tp1 H1 b1 => ?_
 refine sn_again H1 341 5543348194271741621936805149908472657534896522349601469896729977862673923083332973741690536019890139373400386401716192473295128452290550117281591294401770512794343022440943938647512808562517539841963360322300099444362127638899163816274306461715665337976106757980521385553961491175792539643759795080733901115820729715536712326294954017544817941828984892418854533044502577423784333903411827013 [(false, false), (false, false), (true, true), (true, true), (false, false), (hasS X.cm ⟨#[39]⟩, false), (false, false), (false, false), (false, false), (true, true)] [0,1,2,3,4] (fun _ => [ioObj X.ioD, ioDict X.Hi X.Ki X.buf X.tb X.nl (adv X.buf q : Nat) tp1 X.epi, shObj X.sd, sdDict X (.str ⟨#[39]⟩ tk) ⟨#[]⟩ tt ln tl, rtFrame X.self Y false es te (some ((reduceHash ((W3 w a b c).params.strHash sNC.cps)), s1.toks, (.str ⟨#[39]⟩ tk)))]) (fun _ => gLoop Y.L rt x) ?_ rfl (by decide) ?_ ?_
 · exact dsC rfl (dsC rfl (dsC rfl (dsC rfl (dsC rfl (dsC d5 (dsC rfl (dsC rfl (dsC rfl (dsC rfl dsN)))))))))
 · cases a <;> (intro B2; kernel_rfl)
 · exact fun B2 s2 p2 _ h2 b2 => K s2 p2 _ _ _ _ _ _ _ _ _ h2 (Beh.trans b1 b2 fun _ z => z)
theorem t_sp_wc_A (H : HpW (W3 w a b c) s.heap (lT X Y q tp (.str ⟨#[32]⟩ ts) ⟨#[]⟩ tt ln tl false es te none)) (hf : X.buf.length ≤ 1000) (hq : q ≤ X.buf.length) (hc : nxt X.buf q = ⟨#[k]⟩) (d0 : (([k] == ([10] : List Nat))) = false) (d4 : (hasS sWS ⟨#[k]⟩) = false) (d5 : (hasS X.cm ⟨#[k]⟩) = false) (d6 : (hasS sES ⟨#[k]⟩) = false) (d7 : (hasS sWC ⟨#[k]⟩) = true) (K : Cont (W3 w a b c) R X Y rt x s (adv X.buf q) ⟨#[97]⟩ ⟨#[k]⟩ false es) :
   wpCode (model prg (W3 w a b c)) (gLoop Y.L rt x) R p s := by
 refine turn_start H hf hq hc fun B s1 tk tp1 H1 b1 => ?_
 refine sn_again H1 262 2721281439636935918090866807653494793687332573685907804692815058182217946248640880309744950962189080525907613436504828934468676722101388065434198420993841759312964537189081017493973502283908249418233963640346867865183344326975954117535238389032805462544485693854540837486313128857350869333867787211077 [(([k] == ([10] : List Nat)), false), (false, false), (true, true), (true, true), (hasS sWS ⟨#[k]⟩, false), (hasS X.cm ⟨#[k]⟩, false), (hasS sES ⟨#[k]⟩, false), (hasS sWC ⟨#[k]⟩, true)] [0,1,2,3,4] (fun _ => [ioObj X.ioD, ioDict X.Hi X.Ki X.buf X.tb X.nl (adv X.buf q : Nat) tp1 X.epi, shObj X.sd, sdDict X (.str ⟨#[97]⟩ (s1.toks + 16)) ⟨#[k]⟩ tk ln tl, rtFrame X.self Y false es te (some ((reduceHash ((W3 w a b c).params.strHash sNC.cps)), s1.toks, (.str ⟨#[k]⟩ tk)))]) (fun _ => gLoop Y.L rt x) ?_ rfl (by decide) ?_ ?_
 · exact dsC d0 (dsC rfl (dsC rfl (dsC rfl (dsC d4 (dsC d5 (dsC d6 (dsC d7 dsN)))))))
 · cases a <;> (intro B2; kernel_rfl)
 · exact fun B2 s2 p2 _ h2 b2 => K s2 p2 _ _ _ _ _ _ _ _ _ h2 (Beh.trans b1 b2 fun _ z => z)
theorem t_sp_ot_A (H : HpW (W3 w a b c) s.heap (lT X Y q tp (.str ⟨#[32]⟩ ts) ⟨#[]⟩ tt ln tl false es te none)) (hf : X.buf.length ≤ 1000) (hq : q ≤ X.buf.length) (hc : nxt X.buf q = ⟨#[k]⟩) (d0 : (([k] == ([10] : List Nat))) = false) (d4 : (hasS sWS ⟨#[k]⟩) = false) (d5 : (hasS X.cm ⟨#[k]⟩) = false) (d6 : (hasS sES ⟨#[k]⟩) = false) (d7 : (hasS sWC ⟨#[k]⟩) = false) (d8 : (hasS ⟨#[]⟩ ⟨#[k]⟩) = false) (d9 : (hasS sQU ⟨#[k]⟩) = false) (K : Cont (W3 w a b c) R X Y rt x s (adv X.buf q) ⟨#[97]⟩ ⟨#[k]⟩ false es) :
   wpCode (model prg (W3 w a b c)) (gLoop Y.L rt x) R p s := by
 refine turn_start H hf hq hc fun B s1 tk tp1 H1 b1 => ?_
 refine sn_again H1 369 115130837659527493562525847528669288055374116135251933652602079213542633282215014902877221726974638004099911525907894294116910885043974991247242001421321391072640212137981018049780128968043125200441612659752988842357336347682857380719802954103278403588319857153329963955690029939780469142343947677456543179576523409227022563866991402215128558855463836495276903460132693997848688323213959015666600525206314246370704818591519045 [(([k] == ([10] : List Nat)), false), (false, false), (true, true), (true, true), (hasS sWS ⟨#[k]⟩, false), (hasS X.cm ⟨#[k]⟩, false), (hasS sES ⟨#[k]⟩, false), (hasS sWC ⟨#[k]⟩, false), (hasS ⟨#[]⟩ ⟨#[k]⟩, false), (hasS sQU ⟨#[k]⟩, false)] [0,1,2,3,4] (fun _ => [ioObj X.ioD, ioDict X.Hi X.Ki X.buf X.tb X.nl (adv X.buf q : Nat) tp1 X.epi, shObj X.sd, sdDict X (.str ⟨#[97]⟩ (s1.toks + 21)) ⟨#[k]⟩ tk ln tl, rtFrame X.self Y false es te (some ((reduceHash ((W3 w a b c).params.strHash sNC.cps)), s1.toks, (.str ⟨#[k]⟩ tk)))]) (fun _ => gLoop Y.L rt x) ?_ rfl (by decide) ?_ ?_
 · exact dsC d0 (dsC rfl (dsC rfl (dsC rfl (dsC d4 (dsC d5 (dsC d6 (dsC d7 (dsC d8 (dsC d9 dsN)))))))))
 · cases a <;> (intro B2; kernel_rfl)
 · exact fun B2 s2 p2 _ h2 b2 => K s2 p2 _ _ _ _ _ _ _ _ _ h2 (Beh.trans b1 b2 fun _ z => z)
theorem t_sp_eof_B (H : HpW (W3 w a b c) s.heap (lT X Y q tp (.str ⟨#[32]⟩ ts) ⟨#[]⟩ tt ln tl false es te (some (h₀, k₀, v₀)))) (hf : X.buf.length ≤ 1000) (hq : q ≤ X.buf.length) (hc : nxt X.buf q = ⟨#[]⟩)  (K : Brk (W3 w a b c) R X Y s (adv X.buf q) none ⟨#[]⟩ false es) :
   wpCode (model prg (W3 w a b c)) (gLoop Y.L rt x) R p s := by
 refine turn_start H hf hq hc fun B s1 tk tp1 H1 b1 => ?_
 refine sn_ok H1 117 2686185553885932296921299791145050723668159497778929792955742523986025367296282950056018315370618138068482028843562053161285 [(false, false), (false, false), (true, true), (true, true)] [0,1,2,3,4] (fun _ => [ioObj X.ioD, ioDict X.Hi X.Ki X.buf X.tb X.nl (adv X.buf q : Nat) tp1 X.epi, shObj X.sd, sdDict X .none ⟨#[]⟩ tt ln tl, rtFrame X.self Y false es te (some (h₀, k₀, (.str ⟨#[]⟩ tk)))]) (fun _ => .next) ?_ rfl (by decide) ?_ ?_
 · exact dsC rfl (dsC rfl (dsC rfl (dsC rfl dsN)))
 · cases a <;> (intro B2; kernel_rfl)
 · exact fun B2 s2 _ h2 b2 => K s2 tp1 0 _ _ _ _ _ _ _ h2 (Beh.trans b1 b2 fun _ z => z)
theorem t_sp_nl_B (H : HpW (W3 w a b c) s.heap (lT X Y q tp (.str ⟨#[32]⟩ ts) ⟨#[]⟩ tt ln tl false es te (some (h₀, k₀, v₀)))) (hf : X.buf.length ≤ 1000) (hq : q ≤ X.buf.length) (hc : nxt X.buf q = ⟨#[10]⟩)  (K : Cont (W3 w a b c) R X Y rt x s (adv X.buf q) ⟨#[32]⟩ ⟨#[]⟩ false es) :
   wpCode (model prg (W3 w a b c)) (gLoop Y.L rt x) R p s := by
 refine turn_start H hf hq hc fun B s1 tk tp1 H1 b1 => ?_
 refine sn_again H1 230 9729764148475968392652717219819170392425769522845257752379977711130427705739516695090684187089192419956931214379819302088001098773837480981358280242990172783706496541112460545746706425463107227352081626397321386747210254381286629730157651729685036732778828101 [(true, true), (true, true), (false, false), (true, true), (true, true), (true, true), (false, false), (true, true)] [0,1,2,3,4] (fun _ => [ioObj X.ioD, ioDict X.Hi X.Ki X.buf X.tb X.nl (adv X.buf q : Nat) tp1 X.epi, shObj X.sd, sdDict X (.str ⟨#[32]⟩ ts) ⟨#[]⟩ tt (ln + 1) (s1.toks + 4), rtFrame X.self Y false es te (some (h₀, k₀, (.str ⟨#[10]⟩ tk)))]) (fun _ => gLoop Y.L rt x) ?_ rfl (by decide) ?_ ?_
 · exact dsC rfl (dsC rfl (dsC rfl (dsC rfl (dsC rfl (dsC rfl (dsC rfl (dsC rfl dsN)))))))
 · cases a <;> (intro B2; kernel_rfl)
 · exact fun B2 s2 p2 _ h2 b2 => K s2 p2 _ _ _ _ _ _ _ _ _ h2 (Beh.trans b1 b2 fun _ z => z)
theorem t_sp_ws_B (H : HpW (W3 w a b c) s.heap (lT X Y q tp (.str ⟨#[32]⟩ ts) ⟨#[]⟩ tt ln tl false es te (some (h₀, k₀, v₀)))) (hf : X.buf.length ≤ 1000) (hq : q ≤ X.buf.length) (hc : nxt X.buf q = ⟨#[k]⟩) (d0 : (([k] == ([10] : List Nat))) = false) (d4 : (hasS sWS ⟨#[k]⟩) = true) (K : Cont (W3 w a b c) R X Y rt x s (adv X.buf q) ⟨#[32]⟩ ⟨#[]⟩ false es) :
   wpCode (model prg (W3 w a b c)) (gLoop Y.L rt x) R p s := by
 refine turn_start H hf hq hc fun B s1 tk tp1 H1 b1 => ?_
 refine sn_again H1 183 24219388378380621313509879980070655336637018282688036445200323252225393528840995097888253696191404982400217837280488877762142146153658886085408253162794180022056778317285514680123126953285625189781829 [(([k] == ([10] : List Nat)), false), (false, false), (true, true), (true, true), (hasS sWS ⟨#[k]⟩, true), (false, false), (true, true)] [0,1,2,3,4] (fun _ => [ioObj X.ioD, ioDict X.Hi X.Ki X.buf X.tb X.nl (adv X.buf q : Nat) tp1 X.epi, shObj X.sd, sdDict X (.str ⟨#[32]⟩ ts) ⟨#[]⟩ tt ln tl, rtFrame X.self Y false es te (some (h₀, k₀, (.str ⟨#[k]⟩ tk)))]) (fun _ => gLoop Y.L rt x) ?_ rfl (by decide) ?_ ?_
 · exact dsC d0 (dsC rfl (dsC rfl (dsC rfl (dsC d4 (dsC rfl (dsC rfl dsN))))))
 · cases a <;> (intro B2; kernel_rfl)
 · exact fun B2 s2 p2 _ h2 b2 => K s2 p2 _ _ _ _ _ _ _ _ _ h2 (Beh.trans b1 b2 fun _ z => z)
theorem t_sp_sq_B (H : HpW (W3 w a b c) s.heap (lT X Y q tp (.str ⟨#[32]⟩ ts) ⟨#[]⟩ tt ln tl false es te (some (h₀, k₀, v₀)))) (hf : X.buf.length ≤ 1000) (hq : q ≤ X.buf.length) (hc : nxt X.buf q = ⟨#[39]⟩) (d5 : (hasS X.cm ⟨#[39]⟩) = false) (K : Cont (W3 w a b c) R X Y rt x s (adv X.buf q) ⟨#[39]⟩ ⟨#[]⟩ false es) :
   wpCode (model prg (W3 w a b c)) (gLoop Y.L rt x) R p s := by
 refine turn_start H hf hq hc fun B s1 tk tp1 H1 b1 => ?_
 refine sn_again H1 341 5543348194271741621936805149908472657534896522349601469896729977862673923083332973741690536019890139373400386401716192473295128452290550117281591294401770512794343022440943938647512808562517539841963360322300099444362127638899163816274306461715665337976106757980521385553961491175792539643759795080733901115820729715536712326294954017544817941828984892418854533044502577423784333903411827013 [(false, false), (false, false), (true, true), (true, true), (false, false), (hasS X.cm ⟨#[39]⟩, false), (false, false), (false, false), (false, false), (true, true)] [0,1,2,3,4] (fun _ => [ioObj X.ioD, ioDict X.Hi X.Ki X.buf X.tb X.nl (adv X.buf q : Nat) tp1 X.epi, shObj X.sd, sdDict X (.str ⟨#[39]⟩ tk) ⟨#[]⟩ tt ln tl, rtFrame X.self Y false es te (some (h₀, k₀, (.str ⟨#[39]⟩ tk)))]) (fun _ => gLoop Y.L rt x) ?_ rfl (by decide) ?_ ?_
 · exact dsC rfl (dsC rfl (dsC rfl (dsC rfl (dsC rfl (dsC d5 (dsC rfl (dsC rfl (dsC rfl (dsC rfl dsN)))))))))
 · cases a <;> (intro B2; kernel_rfl)
 · exact fun B2 s2 p2 _ h2 b2 => K s2 p2 _ _ _ _ _ _ _ _ _ h2 (Beh.trans b1 b2 fun _ z => z)
theorem t_sp_wc_B (H : HpW (W3 w a b c) s.heap (lT X Y q tp (.str ⟨#[32]⟩ ts) ⟨#[]⟩ tt ln tl false es te (some (h₀, k₀, v₀)))) (hf : X.buf.length ≤ 1000) (hq : q ≤ X.buf.length) (hc : nxt X.buf q = ⟨#[k]⟩) (d0 : (([k] == ([10] : List Nat))) = false) (d4 : (hasS sWS ⟨#[k]⟩) = false) (d5 : (hasS X.cm ⟨#[k]⟩) = false) (d6 : (hasS sES ⟨#[k]⟩) = false) (d7 : (hasS sWC ⟨#[k]⟩) = true) (K : Cont (W3 w a b c) R X Y rt x s (adv X.buf q) ⟨#[97]⟩ ⟨#[k]⟩ false es) :
   wpCode (model prg (W3 w a b c)) (gLoop Y.L rt x) R p s := by
 refine turn_start H hf hq hc fun B s1 tk tp1 H1 b1 => ?_
 refine sn_again H1 262 2721281439636935918090866807653494793687332573685907804692815058182217946248640880309744950962189080525907613436504828934468676722101388065434198420993841759312964537189081017493973502283908249418233963640346867865183344326975954117535238389032805462544485693854540837486313128857350869333867787211077 [(([k] == ([10] : List Nat)), false), (false, false), (true, true), (true, true), (hasS sWS ⟨#[k]⟩, false), (hasS X.cm ⟨#[k]⟩, false), (hasS sES ⟨#[k]⟩, false), (hasS sWC ⟨#[k]⟩, true)] [0,1,2,3,4] (fun _ => [ioObj X.ioD, ioDict X.Hi X.Ki X.buf X.tb X.nl (adv X.buf q : Nat) tp1 X.epi, shObj X.sd, sdDict X (.str ⟨#[97]⟩ (s1.toks + 16)) ⟨#[k]⟩ tk ln tl, rtFrame X.self Y false es te (some (h₀, k₀, (.str ⟨#[k]⟩ tk)))]) (fun _ => gLoop Y.L rt x) ?_ rfl (by decide) ?_ ?_
 · exact dsC d0 (dsC rfl (dsC rfl (dsC rfl (dsC d4 (dsC d5 (dsC d6 (dsC d7 dsN)))))))
 · cases a <;> (intro B2; kernel_rfl)
 · exact fun B2 s2 p2 _ h2 b2 => K s2 p2 _ _ _ _ _ _ _ _ _ h2 (Beh.trans b1 b2 fun _ z => z)
theorem t_sp_ot_B (H : HpW (W3 w a b c) s.heap (lT X Y q tp (.str ⟨#[32]⟩ ts) ⟨#[]⟩ tt ln tl false es te (some (h₀, k₀, v₀)))) (hf : X.buf.length ≤ 1000) (hq : q ≤ X.buf.length) (hc : nxt X.buf q = ⟨#[k]⟩) (d0 : (([k] == ([10] : List Nat))) = false) (d4 : (hasS sWS ⟨#[k]⟩) = false) (d5 : (hasS X.cm ⟨#[k]⟩) = false) (d6 : (hasS sES ⟨#[k]⟩) = false) (d7 : (hasS sWC ⟨#[k]⟩) = false) (d8 : (hasS ⟨#[]⟩ ⟨#[k]⟩) = false) (d9 : (hasS sQU ⟨#[k]⟩) = false) (K : Cont (W3 w a b c) R X Y rt x s (adv X.buf q) ⟨#[97]⟩ ⟨#[k]⟩ false es) :
   wpCode (model prg (W3 w a b c)) (gLoop Y.L rt x) R p s := by
 refine turn_start H hf hq hc fun B s1 tk tp1 H1 b1 => ?_
 refine sn_again H1 369 115130837659527493562525847528669288055374116135251933652602079213542633282215014902877221726974638004099911525907894294116910885043974991247242001421321391072640212137981018049780128968043125200441612659752988842357336347682857380719802954103278403588319857153329963955690029939780469142343947677456543179576523409227022563866991402215128558855463836495276903460132693997848688323213959015666600525206314246370704818591519045 [(([k] == ([10] : List Nat)), false), (false, false), (true, true), (true, true), (hasS sWS ⟨#[k]⟩, false), (hasS X.cm ⟨#[k]⟩, false), (hasS sES ⟨#[k]⟩, false), (hasS sWC ⟨#[k]⟩, false), (hasS ⟨#[]⟩ ⟨#[k]⟩, false), (hasS sQU ⟨#[k]⟩, false)] [0,1,2,3,4] (fun _ => [ioObj X.ioD, ioDict X.Hi X.Ki X.buf X.tb X.nl (adv X.buf q : Nat) tp1 X.epi, shObj X.sd, sdDict X (.str ⟨#[97]⟩ (s1.toks + 21)) ⟨#[k]⟩ tk ln tl, rtFrame X.self Y false es te (some (h₀, k₀, (.str ⟨#[k]⟩ tk)))]) (fun _ => gLoop Y.L rt x) ?_ rfl (by decide) ?_ ?_
 · exact dsC d0 (dsC rfl (dsC rfl (dsC rfl (dsC d4 (dsC d5 (dsC d6 (dsC d7 (dsC d8 (dsC d9 dsN)))))))))
 · cases a <;> (intro B2; kernel_rfl)
 · exact fun B2 s2 p2 _ h2 b2 => K s2 p2 _ _ _ _ _ _ _ _ _ h2 (Beh.trans b1 b2 fun _ z => z)
theorem t_n_eof (H : HpW (W3 w a b c) s.heap (lT X Y q tp .none tok tt ln tl qd es te none)) (hf : X.buf.length ≤ 1000) (hq : q ≤ X.buf.length) (hc : nxt X.buf q = ⟨#[]⟩)  (K : Brk (W3 w a b c) R X Y s (adv X.buf q) none ⟨#[]⟩ qd es) :
   wpCode (model prg (W3 w a b c)) (gLoop Y.L rt x) R p s := by
 refine turn_start H hf hq hc fun B s1 tk tp1 H1 b1 => ?_
 refine sn_ok H1 89 529756691907515384363324813063542317599692839477662528564585624997471906205321366775104033093 [(false, false), (false, false)] [0,1,2,3,4] (fun _ => [ioObj X.ioD, ioDict X.Hi X.Ki X.buf X.tb X.nl (adv X.buf q : Nat) tp1 X.epi, shObj X.sd, sdDict X .none ⟨#[]⟩ (s1.toks + 5) ln tl, rtFrame X.self Y qd es te (some ((reduceHash ((W3 w a b c).params.strHash sNC.cps)), s1.toks, (.str ⟨#[]⟩ tk)))]) (fun _ => .next) ?_ rfl (by decide) ?_ ?_
 · exact dsC rfl (dsC rfl dsN)
 · cases a <;> (intro B2; kernel_rfl)
 · exact fun B2 s2 _ h2 b2 => K s2 tp1 0 _ _ _ _ _ _ _ h2 (Beh.trans b1 b2 fun _ z => z)
theorem t_a_eof (H : HpW (W3 w a b c) s.heap (lT X Y q tp (.str ⟨#[97]⟩ ts) tok tt ln tl qd es te (some (h₀, k₀, v₀)))) (hf : X.buf.length ≤ 1000) (hq : q ≤ X.buf.length) (hc : nxt X.buf q = ⟨#[]⟩)  (K : Brk (W3 w a b c) R X Y s (adv X.buf q) none tok qd es) :
   wpCode (model prg (W3 w a b c)) (gLoop Y.L rt x) R p s := by
 refine turn_start H hf hq hc fun B s1 tk tp1 H1 b1 => ?_
 refine sn_ok H1 227 499820462389181243204454452944682521090632234790253427736460805917626273536123636434835633151884901209365892166411304262575560474054410557817441371033075125167176690014660495916884869100646968390098696256418083349145013293030531403828754505570674935103536517445 [(false, false), (false, false), (false, false), (false, false), (false, false), (true, true), (true, true)] [0,1,2,3,4] (fun _ => [ioObj X.ioD, ioDict X.Hi X.Ki X.buf X.tb X.nl (adv X.buf q : Nat) tp1 X.epi, shObj X.sd, sdDict X .none tok tt ln tl, rtFrame X.self Y qd es te (some (h₀, k₀, (.str ⟨#[]⟩ tk)))]) (fun _ => .next) ?_ rfl (by decide) ?_ ?_
 · exact dsC rfl (dsC rfl (dsC rfl (dsC rfl (dsC rfl (dsC rfl (dsC rfl dsN))))))
 · cases a <;> (intro B2; kernel_rfl)
 · exact fun B2 s2 _ h2 b2 => K s2 tp1 0 _ _ _ _ _ _ _ h2 (Beh.trans b1 b2 fun _ z => z)
theorem t_a_nl_t (H : HpW (W3 w a b c) s.heap (lT X Y q tp (.str ⟨#[97]⟩ ts) ⟨⟨t0 :: tr⟩⟩ tt ln tl qd es te (some (h₀, k₀, v₀)))) (hf : X.buf.length ≤ 1000) (hq : q ≤ X.buf.length) (hc : nxt X.buf q = ⟨#[10]⟩) (d10 : (fits (⟨⟨t0 :: tr⟩⟩ : Str).length) = true) (K : Brk (W3 w a b c) R X Y s (adv X.buf q) (some ⟨#[32]⟩) ⟨⟨t0 :: tr⟩⟩ qd es) :
   wpCode (model prg (W3 w a b c)) (gLoop Y.L rt x) R p s := by
 refine turn_start H hf hq hc fun B s1 tk tp1 H1 b1 => ?_
 refine sn_ok H1 345 72372228085436195726074142383925214156843828131849285606181340185563365140346260753780814850441804335010033920293165084635425247235702372162642288699407051291019426787871237805759884055383554730158546981577502476888329315640806312057194086251745947603773890135331166502091258663632235923874751068478369476678397660065077267644788133365281778733399576359704777510319422147544079957706659304307797902250309 [(true, true), (true, true), (false, false), (false, false), (false, false), (false, false), (true, true), (true, true), (true, true), (false, false), (fits (⟨⟨t0 :: tr⟩⟩ : Str).length, true)] [0,1,2,3,4] (fun _ => [ioObj X.ioD, ioDict X.Hi X.Ki X.buf X.tb X.nl (adv X.buf q : Nat) tp1 X.epi, shObj X.sd, sdDict X (.str ⟨#[32]⟩ (s1.toks + 24)) ⟨⟨t0 :: tr⟩⟩ tt (ln + 1) (s1.toks + 4), rtFrame X.self Y qd es te (some (h₀, k₀, (.str ⟨#[10]⟩ tk)))]) (fun _ => .next) ?_ rfl (by decide) ?_ ?_
 · exact dsC rfl (dsC rfl (dsC rfl (dsC rfl (dsC rfl (dsC rfl (dsC rfl (dsC rfl (dsC rfl (dsC rfl (dsC d10 dsN))))))))))
 · cases a <;> (intro B2; kernel_rfl)
 · exact fun B2 s2 _ h2 b2 => K s2 tp1 (s1.toks + 24) _ _ _ _ _ _ _ h2 (Beh.trans b1 b2 fun _ z => z)
theorem t_a_nl_q (H : HpW (W3 w a b c) s.heap (lT X Y q tp (.str ⟨#[97]⟩ ts) ⟨#[]⟩ tt ln tl true es te (some (h₀, k₀, v₀)))) (hf : X.buf.length ≤ 1000) (hq : q ≤ X.buf.length) (hc : nxt X.buf q = ⟨#[10]⟩)  (K : Brk (W3 w a b c) R X Y s (adv X.buf q) (some ⟨#[32]⟩) ⟨#[]⟩ true es) :
   wpCode (model prg (W3 w a b c)) (gLoop Y.L rt x) R p s := by
 refine turn_start H hf hq hc fun B s1 tk tp1 H1 b1 => ?_
 refine sn_ok H1 368 37601038641893442740647298441117973213378745051722890419189579639725578746248368452202937536070077402477318521372851561636274593674013716093369876701633555700120796583959180398205666387819981765821996954432464086176011399875215828963728105681293840691302416487756373255949347392260797510466366058591876980105111916674117537575825309831110763531976892606939617035185418737899355864194438400310032429917406390361662724380192676270405 [(true, true), (true, true), (false, false), (false, false), (false, false), (false, false), (true, true), (true, true), (true, true), (false, false), (true, true)] [0,1,2,3,4] (fun _ => [ioObj X.ioD, ioDict X.Hi X.Ki X.buf X.tb X.nl (adv X.buf q : Nat) tp1 X.epi, shObj X.sd, sdDict X (.str ⟨#[32]⟩ (s1.toks + 24)) ⟨#[]⟩ tt (ln + 1) (s1.toks + 4), rtFrame X.self Y true es te (some (h₀, k₀, (.str ⟨#[10]⟩ tk)))]) (fun _ => .next) ?_ rfl (by decide) ?_ ?_
 · exact dsC rfl (dsC rfl (dsC rfl (dsC rfl (dsC rfl (dsC rfl (dsC rfl (dsC rfl (dsC rfl (dsC rfl (dsC rfl dsN))))))))))
 · cases a <;> (intro B2; kernel_rfl)
 · exact fun B2 s2 _ h2 b2 => K s2 tp1 (s1.toks + 24) _ _ _ _ _ _ _ h2 (Beh.trans b1 b2 fun _ z => z)
theorem t_a_ws_t (H : HpW (W3 w a b c) s.heap (lT X Y q tp (.str ⟨#[97]⟩ ts) ⟨⟨t0 :: tr⟩⟩ tt ln tl qd es te (some (h₀, k₀, v₀)))) (hf : X.buf.length ≤ 1000) (hq : q ≤ X.buf.length) (hc : nxt X.buf q = ⟨#[k]⟩) (d0 : (([k] == ([10] : List Nat))) = false) (d7 : (hasS sWS ⟨#[k]⟩) = true) (d9 : (fits (⟨⟨t0 :: tr⟩⟩ : Str).length) = true) (K : Brk (W3 w a b c) R X Y s (adv X.buf q) (some ⟨#[32]⟩) ⟨⟨t0 :: tr⟩⟩ qd es) :
   wpCode (model prg (W3 w a b c)) (gLoop Y.L rt x) R p s := by
 refine turn_start H hf hq hc fun B s1 tk tp1 H1 b1 => ?_
 refine sn_ok H1 298 180149392427408260502173439710426038563506070167703758954967631066490634969337011674978129925674093157517196328934979808376627703081249547238800818296466321916158232056801798691086069529023740664434804771491653045443536029812659680651821106883811132789598679736160889305092154938171908126663980323099818087698190768313868880168196560192339726661 [(([k] == ([10] : List Nat)), false), (false, false), (false, false), (false, false), (false, false), (true, true), (true, true), (hasS sWS ⟨#[k]⟩, true), (false, false), (fits (⟨⟨t0 :: tr⟩⟩ : Str).length, true)] [0,1,2,3,4] (fun _ => [ioObj X.ioD, ioDict X.Hi X.Ki X.buf X.tb X.nl (adv X.buf q : Nat) tp1 X.epi, shObj X.sd, sdDict X (.str ⟨#[32]⟩ (s1.toks + 19)) ⟨⟨t0 :: tr⟩⟩ tt ln tl, rtFrame X.self Y qd es te (some (h₀, k₀, (.str ⟨#[k]⟩ tk)))]) (fun _ => .next) ?_ rfl (by decide) ?_ ?_
 · exact dsC d0 (dsC rfl (dsC rfl (dsC rfl (dsC rfl (dsC rfl (dsC rfl (dsC d7 (dsC rfl (dsC d9 dsN)))))))))
 · cases a <;> (intro B2; kernel_rfl)
 · exact fun B2 s2 _ h2 b2 => K s2 tp1 (s1.toks + 19) _ _ _ _ _ _ _ h2 (Beh.trans b1 b2 fun _ z => z)
theorem t_a_ws_q (H : HpW (W3 w a b c) s.heap (lT X Y q tp (.str ⟨#[97]⟩ ts) ⟨#[]⟩ tt ln tl true es te (some (h₀, k₀, v₀)))) (hf : X.buf.length ≤ 1000) (hq : q ≤ X.buf.length) (hc : nxt X.buf q = ⟨#[k]⟩) (d0 : (([k] == ([10] : List Nat))) = false) (d7 : (hasS sWS ⟨#[k]⟩) = true) (K : Brk (W3 w a b c) R X Y s (adv X.buf q) (some ⟨#[32]⟩) ⟨#[]⟩ true es) :
   wpCode (model prg (W3 w a b c)) (gLoop Y.L rt x) R p s := by
 refine turn_start H hf hq hc fun B s1 tk tp1 H1 b1 => ?_
 refine sn_ok H1 321 93596735172780019595057170445894988720763363250325596527566715121775094800850866777592182139840256214775571555537801022052211451171137993838362734487720980800658109111201609242823420074665492507252070900405933191996177638467904514423975456273300112764359235302324722015708628230562082898023111064899526969803269810846511492674037644607348292726038307731495038613346079045 [(([k] == ([10] : List Nat)), false), (false, false), (false, false), (false, false), (false, false), (true, true), (true, true), (hasS sWS ⟨#[k]⟩, true), (false, false), (true, true)] [0,1,2,3,4] (fun _ => [ioObj X.ioD, ioDict X.Hi X.Ki X.buf X.tb X.nl (adv X.buf q : Nat) tp1 X.epi, shObj X.sd, sdDict X (.str ⟨#[32]⟩ (s1.toks + 19)) ⟨#[]⟩ tt ln tl, rtFrame X.self Y true es te (some (h₀, k₀, (.str ⟨#[k]⟩ tk)))]) (fun _ => .next) ?_ rfl (by decide) ?_ ?_
 · exact dsC d0 (dsC rfl (dsC rfl (dsC rfl (dsC rfl (dsC rfl (dsC rfl (dsC d7 (dsC rfl (dsC rfl dsN)))))))))
 · cases a <;> (intro B2; kernel_rfl)
 · exact fun B2 s2 _ h2 b2 => K s2 tp1 (s1.toks + 19) _ _ _ _ _ _ _ h2 (Beh.trans b1 b2 fun _ z => z)
theorem t_a_sq (H : HpW (W3 w a b c) s.heap (lT X Y q tp (.str ⟨#[97]⟩ ts) tok tt ln tl qd es te (some (h₀, k₀, v₀)))) (hf : X.buf.length ≤ 1000) (hq : q ≤ X.buf.length) (hc : nxt X.buf q = ⟨#[39]⟩) (d8 : (hasS X.cm ⟨#[39]⟩) = false) (K : Cont (W3 w a b c) R X Y rt x s (adv X.buf q) ⟨#[39]⟩ tok qd es) :
   wpCode (model prg (W3 w a b c)) (gLoop Y.L rt x) R p s := by
 refine turn_start H hf hq hc fun B s1 tk tp1 H1 b1 => ?_
 refine sn_again H1 344 380935987275804556850889188761300279252590812736023954548899112610024417544424868737809709300231966536190943337157744486579449823190115076242712941856005603492436092106517006648205334984314816558486733990273229588525533432304826649582423761121087848460946657392784811672248825995740998962435465500911895471132815905552688688621381668472240198287091444105674220641514546203444764624599572229633320702277 [(false, false), (false, false), (false, false), (false, false), (false, false), (true, true), (true, true), (false, false), (hasS X.cm ⟨#[39]⟩, false), (false, false), (true, true)] [0,1,2,3,4] (fun _ => [ioObj X.ioD, ioDict X.Hi X.Ki X.buf X.tb X.nl (adv X.buf q : Nat) tp1 X.epi, shObj X.sd, sdDict X (.str ⟨#[39]⟩ tk) tok tt ln tl, rtFrame X.self Y qd es te (some (h₀, k₀, (.str ⟨#[39]⟩ tk)))]) (fun _ => gLoop Y.L rt x) ?_ rfl (by decide) ?_ ?_
 · exact dsC rfl (dsC rfl (dsC rfl (dsC rfl (dsC rfl (dsC rfl (dsC rfl (dsC rfl (dsC d8 (dsC rfl (dsC rfl dsN))))))))))
 · cases a <;> (intro B2; kernel_rfl)
 · exact fun B2 s2 p2 _ h2 b2 => K s2 p2 _ _ _ _ _ _ _ _ _ h2 (Beh.trans b1 b2 fun _ z => z)
theorem t_a_dq (H : HpW (W3 w a b c) s.heap (lT X Y q tp (.str ⟨#[97]⟩ ts) tok tt ln tl qd es te (some (h₀, k₀, v₀)))) (hf : X.buf.length ≤ 1000) (hq : q ≤ X.buf.length) (hc : nxt X.buf q = ⟨#[34]⟩) (d8 : (hasS X.cm ⟨#[34]⟩) = false) (K : Cont (W3 w a b c) R X Y rt x s (adv X.buf q) ⟨#[34]⟩ tok qd es) :
   wpCode (model prg (W3 w a b c)) (gLoop Y.L rt x) R p s := by
 refine turn_start H hf hq hc fun B s1 tk tp1 H1 b1 => ?_
 refine sn_again H1 344 380935987275804556850889188761300279252590812736023954548899112610024417544424868737809709300231966536190943337157744486579449823190115076242712941856005603492436092106517006648205334984314816558486733990273229588525533432304826649582423761121087848460946657392784811672248825995740998962435465500911895471132815905552688688621381668472240198287091444105674220641514546203444764624599572229633320702277 [(false, false), (false, false), (false, false), (false, false), (false, false), (true, true), (true, true), (false, false), (hasS X.cm ⟨#[34]⟩, false), (false, false), (true, true)] [0,1,2,3,4] (fun _ => [ioObj X.ioD, ioDict X.Hi X.Ki X.buf X.tb X.nl (adv X.buf q : Nat) tp1 X.epi, shObj X.sd, sdDict X (.str ⟨#[34]⟩ tk) tok tt ln tl, rtFrame X.self Y qd es te (some (h₀, k₀, (.str ⟨#[34]⟩ tk)))]) (fun _ => gLoop Y.L rt x) ?_ rfl (by decide) ?_ ?_
 · exact dsC rfl (dsC rfl (dsC rfl (dsC rfl (dsC rfl (dsC rfl (dsC rfl (dsC rfl (dsC d8 (dsC rfl (dsC rfl dsN))))))))))
 · cases a <;> (intro B2; kernel_rfl)
 · exact fun B2 s2 p2 _ h2 b2 => K s2 p2 _ _ _ _ _ _ _ _ _ h2 (Beh.trans b1 b2 fun _ z => z)
theorem t_a_wc_t (H : HpW (W3 w a b c) s.heap (lT X Y q tp (.str ⟨#[97]⟩ ts) ⟨⟨t0 :: tr⟩⟩ tt ln tl qd es te (some (h₀, k₀, v₀)))) (hf : X.buf.length ≤ 1000) (hq : q ≤ X.buf.length) (hc : nxt X.buf q = ⟨#[k]⟩) (d0 : (([k] == ([10] : List Nat))) = false) (d7 : (hasS sWS ⟨#[k]⟩) = false) (d8 : (hasS X.cm ⟨#[k]⟩) = false) (d10 : (hasS sQU ⟨#[k]⟩) = false) (d11 : (hasS sES ⟨#[k]⟩) = false) (d12 : (hasS sWC ⟨#[k]⟩) = true) (d13 : (fits (⟨⟨t0 :: tr⟩⟩ ++ ⟨#[k]⟩ : Str).length) = true) (K : Cont (W3 w a b c) R X Y rt x s (adv X.buf q) ⟨#[97]⟩ (⟨⟨t0 :: tr⟩⟩ ++ ⟨#[k]⟩) qd es) :
   wpCode (model prg (W3 w a b c)) (gLoop Y.L rt x) R p s := by
 refine turn_start H hf hq hc fun B s1 tk tp1 H1 b1 => ?_
 refine sn_again H1 432 894644387428218104726855032919201439392197329799822429119648959334626513638227482019835581696636103164052207086247217048467277391183783104561561138186760962872123655755476040446165790005172432406541325238645281119651485338912146218179916571399198317281678582553568582242760089073258575610842781711730842185681084788594817961403685448994523525574376173569444226258557879544629471893052651598398428222789509523415076113739731980754217463981280646779402474118917038258519324379434562676319271400331718259221221701 [(([k] == ([10] : List Nat)), false), (false, false), (false, false), (false, false), (false, false), (true, true), (true, true), (hasS sWS ⟨#[k]⟩, false), (hasS X.cm ⟨#[k]⟩, false), (false, false), (hasS sQU ⟨#[k]⟩, false), (hasS sES ⟨#[k]⟩, false), (hasS sWC ⟨#[k]⟩, true), (fits (⟨⟨t0 :: tr⟩⟩ ++ ⟨#[k]⟩ : Str).length, true)] [0,1,2,3,4] (fun _ => [ioObj X.ioD, ioDict X.Hi X.Ki X.buf X.tb X.nl (adv X.buf q : Nat) tp1 X.epi, shObj X.sd, sdDict X (.str ⟨#[97]⟩ ts) (⟨⟨t0 :: tr⟩⟩ ++ ⟨#[k]⟩) (s1.toks + 26) ln tl, rtFrame X.self Y qd es te (some (h₀, k₀, (.str ⟨#[k]⟩ tk)))]) (fun _ => gLoop Y.L rt x) ?_ rfl (by decide) ?_ ?_
 · exact dsC d0 (dsC rfl (dsC rfl (dsC rfl (dsC rfl (dsC rfl (dsC rfl (dsC d7 (dsC d8 (dsC rfl (dsC d10 (dsC d11 (dsC d12 (dsC d13 dsN)))))))))))))
 · cases a <;> (intro B2; kernel_rfl)
 · exact fun B2 s2 p2 _ h2 b2 => K s2 p2 _ _ _ _ _ _ _ _ _ h2 (Beh.trans b1 b2 fun _ z => z)
theorem t_a_wc_q (H : HpW (W3 w a b c) s.heap (lT X Y q tp (.str ⟨#[97]⟩ ts) ⟨#[]⟩ tt ln tl qd es te (some (h₀, k₀, v₀)))) (hf : X.buf.length ≤ 1000) (hq : q ≤ X.buf.length) (hc : nxt X.buf q = ⟨#[k]⟩) (d0 : (([k] == ([10] : List Nat))) = false) (d7 : (hasS sWS ⟨#[k]⟩) = false) (d8 : (hasS X.cm ⟨#[k]⟩) = false) (d10 : (hasS sQU ⟨#[k]⟩) = false) (d11 : (hasS sES ⟨#[k]⟩) = false) (d12 : (hasS sWC ⟨#[k]⟩) = true) (K : Cont (W3 w a b c) R X Y rt x s (adv X.buf q) ⟨#[97]⟩ ⟨#[k]⟩ qd es) :
   wpCode (model prg (W3 w a b c)) (gLoop Y.L rt x) R p s := by
 refine turn_start H hf hq hc fun B s1 tk tp1 H1 b1 => ?_
 refine sn_again H1 432 894644387428218104726855032919201439392197329799822429119648959334626513638227482019835581696636103164052207086247217048467277391183783104561561138186760962872123655755476040446165790005172432406541325238645281119651485338912146218179916571399198317281678582553568582242760089073258575610842781711730842185681084788594817961403685448994523525574376173569444226258557879544629471893052651598398428222789509523415076113739731980754217463981280646779402474118917038258519324379434562676319271400331718259221221701 [(([k] == ([10] : List Nat)), false), (false, false), (false, false), (false, false), (false, false), (true, true), (true, true), (hasS sWS ⟨#[k]⟩, false), (hasS X.cm ⟨#[k]⟩, false), (false, false), (hasS sQU ⟨#[k]⟩, false), (hasS sES ⟨#[k]⟩, false), (hasS sWC ⟨#[k]⟩, true)] [0,1,2,3,4] (fun _ => [ioObj X.ioD, ioDict X.Hi X.Ki X.buf X.tb X.nl (adv X.buf q : Nat) tp1 X.epi, shObj X.sd, sdDict X (.str ⟨#[97]⟩ ts) ⟨#[k]⟩ tk ln tl, rtFrame X.self Y qd es te (some (h₀, k₀, (.str ⟨#[k]⟩ tk)))]) (fun _ => gLoop Y.L rt x) ?_ rfl (by decide) ?_ ?_
 · exact dsC d0 (dsC rfl (dsC rfl (dsC rfl (dsC rfl (dsC rfl (dsC rfl (dsC d7 (dsC d8 (dsC rfl (dsC d10 (dsC d11 (dsC d12 dsN))))))))))))
 · cases a <;> (intro B2; kernel_rfl)
 · exact fun B2 s2 p2 _ h2 b2 => K s2 p2 _ _ _ _ _ _ _ _ _ h2 (Beh.trans b1 b2 fun _ z => z)
theorem t_a_ot_t (H : HpW (W3 w a b c) s.heap (lT X Y q tp (.str ⟨#[97]⟩ ts) ⟨⟨t0 :: tr⟩⟩ tt ln tl qd es te (some (h₀, k₀, v₀)))) (hf : X.buf.length ≤ 1000) (hq : q ≤ X.buf.length) (hc : nxt X.buf q = ⟨#[k]⟩) (d0 : (([k] == ([10] : List Nat))) = false) (d7 : (hasS sWS ⟨#[k]⟩) = false) (d8 : (hasS X.cm ⟨#[k]⟩) = false) (d10 : (hasS sQU ⟨#[k]⟩) = false) (d11 : (hasS sES ⟨#[k]⟩) = false) (d12 : (hasS sWC ⟨#[k]⟩) = false) (d13 : (hasS sQU ⟨#[k]⟩) = false) (d14 : (hasS ⟨#[]⟩ ⟨#[k]⟩) = false) (d15 : (fits (⟨⟨t0 :: tr⟩⟩ ++ ⟨#[k]⟩ : Str).length) = true) (K : Cont (W3 w a b c) R X Y rt x s (adv X.buf q) ⟨#[97]⟩ (⟨⟨t0 :: tr⟩⟩ ++ ⟨#[k]⟩) qd es) :
   wpCode (model prg (W3 w a b c)) (gLoop Y.L rt x) R p s := by
 refine turn_start H hf hq hc fun B s1 tk tp1 H1 b1 => ?_
 refine sn_again H1 536 37850240784263630301483545594829499387069083656543423977984347559431524991842078987250902169040574151468074073278796581688337729148411891447963300945974312698779971798467954398397157441934239250889128306943773588167555696405065730003334316036860487131984875315609543424880205971922224441605835377177375667733279775220384949143668019600132671606152700384776904241870923783200408021922064688421081986152691800638300060383065360492049228852366903523853966996332274809386717862942847287760192507104516205056074794606739150673828585537730982711976426045890254494408351434676782901898784775140833487939563777675993845425928215408579889615173 [(([k] == ([10] : List Nat)), false), (false, false), (false, false), (false, false), (false, false), (true, true), (true, true), (hasS sWS ⟨#[k]⟩, false), (hasS X.cm ⟨#[k]⟩, false), (false, false), (hasS sQU ⟨#[k]⟩, false), (hasS sES ⟨#[k]⟩, false), (hasS sWC ⟨#[k]⟩, false), (hasS sQU ⟨#[k]⟩, false), (hasS ⟨#[]⟩ ⟨#[k]⟩, false), (fits (⟨⟨t0 :: tr⟩⟩ ++ ⟨#[k]⟩ : Str).length, true)] [0,1,2,3,4] (fun _ => [ioObj X.ioD, ioDict X.Hi X.Ki X.buf X.tb X.nl (adv X.buf q : Nat) tp1 X.epi, shObj X.sd, sdDict X (.str ⟨#[97]⟩ ts) (⟨⟨t0 :: tr⟩⟩ ++ ⟨#[k]⟩) (s1.toks + 31) ln tl, rtFrame X.self Y qd es te (some (h₀, k₀, (.str ⟨#[k]⟩ tk)))]) (fun _ => gLoop Y.L rt x) ?_ rfl (by decide) ?_ ?_
 · exact dsC d0 (dsC rfl (dsC rfl (dsC rfl (dsC rfl (dsC rfl (dsC rfl (dsC d7 (dsC d8 (dsC rfl (dsC d10 (dsC d11 (dsC d12 (dsC d13 (dsC d14 (dsC d15 dsN)))))))))))))))
 · cases a <;> (intro B2; kernel_rfl)
 · exact fun B2 s2 p2 _ h2 b2 => K s2 p2 _ _ _ _ _ _ _ _ _ h2 (Beh.trans b1 b2 fun _ z => z)
theorem t_a_ot_q (H : HpW (W3 w a b c) s.heap (lT X Y q tp (.str ⟨#[97]⟩ ts) ⟨#[]⟩ tt ln tl qd es te (some (h₀, k₀, v₀)))) (hf : X.buf.length ≤ 1000) (hq : q ≤ X.buf.length) (hc : nxt X.buf q = ⟨#[k]⟩) (d0 : (([k] == ([10] : List Nat))) = false) (d7 : (hasS sWS ⟨#[k]⟩) = false) (d8 : (hasS X.cm ⟨#[k]⟩) = false) (d10 : (hasS sQU ⟨#[k]⟩) = false) (d11 : (hasS sES ⟨#[k]⟩) = false) (d12 : (hasS sWC ⟨#[k]⟩) = false) (d13 : (hasS sQU ⟨#[k]⟩) = false) (d14 : (hasS ⟨#[]⟩ ⟨#[k]⟩) = false) (K : Cont (W3 w a b c) R X Y rt x s (adv X.buf q) ⟨#[97]⟩ ⟨#[k]⟩ qd es) :
   wpCode (model prg (W3 w a b c)) (gLoop Y.L rt x) R p s := by
 refine turn_start H hf hq hc fun B s1 tk tp1 H1 b1 => ?_
 refine sn_again H1 536 37850240784263630301483545594829499387069083656543423977984347559431524991842078987250902169040574151468074073278796581688337729148411891447963300945974312698779971798467954398397157441934239250889128306943773588167555696405065730003334316036860487131984875315609543424880205971922224441605835377177375667733279775220384949143668019600132671606152700384776904241870923783200408021922064688421081986152691800638300060383065360492049228852366903523853966996332274809386717862942847287760192507104516205056074794606739150673828585537730982711976426045890254494408351434676782901898784775140833487939563777675993845425928215408579889615173 [(([k] == ([10] : List Nat)), false), (false, false), (false, false), (false, false), (false, false), (true, true), (true, true), (hasS sWS ⟨#[k]⟩, false), (hasS X.cm ⟨#[k]⟩, false), (false, false), (hasS sQU ⟨#[k]⟩, false), (hasS sES ⟨#[k]⟩, false), (hasS sWC ⟨#[k]⟩, false), (hasS sQU ⟨#[k]⟩, false), (hasS ⟨#[]⟩ ⟨#[k]⟩, false)] [0,1,2,3,4] (fun _ => [ioObj X.ioD, ioDict X.Hi X.Ki X.buf X.tb X.nl (adv X.buf q : Nat) tp1 X.epi, shObj X.sd, sdDict X (.str ⟨#[97]⟩ ts) ⟨#[k]⟩ tk ln tl, rtFrame X.self Y qd es te (some (h₀, k₀, (.str ⟨#[k]⟩ tk)))]) (fun _ => gLoop Y.L rt x) ?_ rfl (by decide) ?_ ?_
 · exact dsC d0 (dsC rfl (dsC rfl (dsC rfl (dsC rfl (dsC rfl (dsC rfl (dsC d7 (dsC d8 (dsC rfl (dsC d10 (dsC d11 (dsC d12 (dsC d13 (dsC d14 dsN))))))))))))))
 · cases a <;> (intro B2; kernel_rfl)
 · exact fun B2 s2 p2 _ h2 b2 => K s2 p2 _ _ _ _ _ _ _ _ _ h2 (Beh.trans b1 b2 fun _ z => z)
theorem t_q_cl (H : HpW (W3 w a b c) s.heap (lT X Y q tp (.str ⟨#[39]⟩ ts) tok tt ln tl qd es te (some (h₀, k₀, v₀)))) (hf : X.buf.length ≤ 1000) (hq : q ≤ X.buf.length) (hc : nxt X.buf q = ⟨#[39]⟩)  (K : Cont (W3 w a b c) R X Y rt x s (adv X.buf q) ⟨#[97]⟩ tok true es) :
   wpCode (model prg (W3 w a b c)) (gLoop Y.L rt x) R p s := by
 refine turn_start H hf hq hc fun B s1 tk tp1 H1 b1 => ?_
 refine sn_again H1 212 403751754146113741309592535749078018384249076281841430584394921744036937525465608917161772026923333978436603289572682155603976457032781175827879677241542568873703137120828965135824922924179093597449224080570908935443906733663060250949 [(false, false), (false, false), (false, false), (true, true), (true, true), (true, true)] [0,1,2,3,4] (fun _ => [ioObj X.ioD, ioDict X.Hi X.Ki X.buf X.tb X.nl (adv X.buf q : Nat) tp1 X.epi, shObj X.sd, sdDict X (.str ⟨#[97]⟩ (s1.toks + 14)) tok tt ln tl, rtFrame X.self Y true es te (some (h₀, k₀, (.str ⟨#[39]⟩ tk)))]) (fun _ => gLoop Y.L rt x) ?_ rfl (by decide) ?_ ?_
 · exact dsC rfl (dsC rfl (dsC rfl (dsC rfl (dsC rfl (dsC rfl dsN)))))
 · cases a <;> (intro B2; kernel_rfl)
 · exact fun B2 s2 p2 _ h2 b2 => K s2 p2 _ _ _ _ _ _ _ _ _ h2 (Beh.trans b1 b2 fun _ z => z)
theorem t_q_nl_t (H : HpW (W3 w a b c) s.heap (lT X Y q tp (.str ⟨#[39]⟩ ts) ⟨⟨t0 :: tr⟩⟩ tt ln tl qd es te (some (h₀, k₀, v₀)))) (hf : X.buf.length ≤ 1000) (hq : q ≤ X.buf.length) (hc : nxt X.buf q = ⟨#[10]⟩) (d8 : (fits (⟨⟨t0 :: tr⟩⟩ ++ ⟨#[10]⟩ : Str).length) = true) (K : Cont (W3 w a b c) R X Y rt x s (adv X.buf q) ⟨#[39]⟩ (⟨⟨t0 :: tr⟩⟩ ++ ⟨#[10]⟩) true es) :
   wpCode (model prg (W3 w a b c)) (gLoop Y.L rt x) R p s := by
 refine turn_start H hf hq hc fun B s1 tk tp1 H1 b1 => ?_
 refine sn_again H1 303 15908629118670313998333145859264891524974308989383133228498750049114011973436740271705090546055553015558539218537286435953720655840849403563167459193724825121423496530884654833160045608118691866374164603670099757641453021250371101871945136882892626783878343687953984855813378871498728774079353036610792626823582402894786189921594589984159002788122949 [(true, true), (true, true), (false, false), (false, false), (true, true), (true, true), (false, false), (false, false), (fits (⟨⟨t0 :: tr⟩⟩ ++ ⟨#[10]⟩ : Str).length, true)] [0,1,2,3,4] (fun _ => [ioObj X.ioD, ioDict X.Hi X.Ki X.buf X.tb X.nl (adv X.buf q : Nat) tp1 X.epi, shObj X.sd, sdDict X (.str ⟨#[39]⟩ ts) (⟨⟨t0 :: tr⟩⟩ ++ ⟨#[10]⟩) (s1.toks + 21) (ln + 1) (s1.toks + 4), rtFrame X.self Y true es te (some (h₀, k₀, (.str ⟨#[10]⟩ tk)))]) (fun _ => gLoop Y.L rt x) ?_ rfl (by decide) ?_ ?_
 · exact dsC rfl (dsC rfl (dsC rfl (dsC rfl (dsC rfl (dsC rfl (dsC rfl (dsC rfl (dsC d8 dsN))))))))
 · cases a <;> (intro B2; kernel_rfl)
 · exact fun B2 s2 p2 _ h2 b2 => K s2 p2 _ _ _ _ _ _ _ _ _ h2 (Beh.trans b1 b2 fun _ z => z)
theorem t_q_nl_e (H : HpW (W3 w a b c) s.heap (lT X Y q tp (.str ⟨#[39]⟩ ts) ⟨#[]⟩ tt ln tl qd es te (some (h₀, k₀, v₀)))) (hf : X.buf.length ≤ 1000) (hq : q ≤ X.buf.length) (hc : nxt X.buf q = ⟨#[10]⟩)  (K : Cont (W3 w a b c) R X Y rt x s (adv X.buf q) ⟨#[39]⟩ ⟨#[10]⟩ true es) :
   wpCode (model prg (W3 w a b c)) (gLoop Y.L rt x) R p s := by
 refine turn_start H hf hq hc fun B s1 tk tp1 H1 b1 => ?_
 refine sn_again H1 303 15908629118670313998333145859264891524974308989383133228498750049114011973436740271705090546055553015558539218537286435953720655840849403563167459193724825121423496530884654833160045608118691866374164603670099757641453021250371101871945136882892626783878343687953984855813378871498728774079353036610792626823582402894786189921594589984159002788122949 [(true, true), (true, true), (false, false), (false, false), (true, true), (true, true), (false, false), (false, false)] [0,1,2,3,4] (fun _ => [ioObj X.ioD, ioDict X.Hi X.Ki X.buf X.tb X.nl (adv X.buf q : Nat) tp1 X.epi, shObj X.sd, sdDict X (.str ⟨#[39]⟩ ts) ⟨#[10]⟩ tk (ln + 1) (s1.toks + 4), rtFrame X.self Y true es te (some (h₀, k₀, (.str ⟨#[10]⟩ tk)))]) (fun _ => gLoop Y.L rt x) ?_ rfl (by decide) ?_ ?_
 · exact dsC rfl (dsC rfl (dsC rfl (dsC rfl (dsC rfl (dsC rfl (dsC rfl (dsC rfl dsN)))))))
 · cases a <;> (intro B2; kernel_rfl)
 · exact fun B2 s2 p2 _ h2 b2 => K s2 p2 _ _ _ _ _ _ _ _ _ h2 (Beh.trans b1 b2 fun _ z => z)
theorem t_q_ot_t (H : HpW (W3 w a b c) s.heap (lT X Y q tp (.str ⟨#[39]⟩ ts) ⟨⟨t0 :: tr⟩⟩ tt ln tl qd es te (some (h₀, k₀, v₀)))) (hf : X.buf.length ≤ 1000) (hq : q ≤ X.buf.length) (hc : nxt X.buf q = ⟨#[k]⟩) (d0 : (([k] == ([10] : List Nat))) = false) (d5 : (([k] == ([39] : List Nat))) = false) (d6 : (hasS sES ⟨#[k]⟩) = false) (d7 : (fits (⟨⟨t0 :: tr⟩⟩ ++ ⟨#[k]⟩ : Str).length) = true) (K : Cont (W3 w a b c) R X Y rt x s (adv X.buf q) ⟨#[39]⟩ (⟨⟨t0 :: tr⟩⟩ ++ ⟨#[k]⟩) true es) :
   wpCode (model prg (W3 w a b c)) (gLoop Y.L rt x) R p s := by
 refine turn_start H hf hq hc fun B s1 tk tp1 H1 b1 => ?_
 refine sn_again H1 256 39599856822124797590235056234138193178002984768139446233254204504172200935905463301334210449224153315923568746173942622953691822946661030675102521432611642240229275401846227272129040621830151840545231831743170995069649712416073473314411927259002193464168976315386662208491612197598655697221 [(([k] == ([10] : List Nat)), false), (false, false), (false, false), (true, true), (true, true), (([k] == ([39] : List Nat)), false), (hasS sES ⟨#[k]⟩, false), (fits (⟨⟨t0 :: tr⟩⟩ ++ ⟨#[k]⟩ : Str).length, true)] [0,1,2,3,4] (fun _ => [ioObj X.ioD, ioDict X.Hi X.Ki X.buf X.tb X.nl (adv X.buf q : Nat) tp1 X.epi, shObj X.sd, sdDict X (.str ⟨#[39]⟩ ts) (⟨⟨t0 :: tr⟩⟩ ++ ⟨#[k]⟩) (s1.toks + 16) ln tl, rtFrame X.self Y true es te (some (h₀, k₀, (.str ⟨#[k]⟩ tk)))]) (fun _ => gLoop Y.L rt x) ?_ rfl (by decide) ?_ ?_
 · exact dsC d0 (dsC rfl (dsC rfl (dsC rfl (dsC rfl (dsC d5 (dsC d6 (dsC d7 dsN)))))))
 · cases a <;> (intro B2; kernel_rfl)
 · exact fun B2 s2 p2 _ h2 b2 => K s2 p2 _ _ _ _ _ _ _ _ _ h2 (Beh.trans b1 b2 fun _ z => z)
theorem t_q_ot_e (H : HpW (W3 w a b c) s.heap (lT X Y q tp (.str ⟨#[39]⟩ ts) ⟨#[]⟩ tt ln tl qd es te (some (h₀, k₀, v₀)))) (hf : X.buf.length ≤ 1000) (hq : q ≤ X.buf.length) (hc : nxt X.buf q = ⟨#[k]⟩) (d0 : (([k] == ([10] : List Nat))) = false) (d5 : (([k] == ([39] : List Nat))) = false) (d6 : (hasS sES ⟨#[k]⟩) = false) (K : Cont (W3 w a b c) R X Y rt x s (adv X.buf q) ⟨#[39]⟩ ⟨#[k]⟩ true es) :
   wpCode (model prg (W3 w a b c)) (gLoop Y.L rt x) R p s := by
 refine turn_start H hf hq hc fun B s1 tk tp1 H1 b1 => ?_
 refine sn_again H1 256 39599856822124797590235056234138193178002984768139446233254204504172200935905463301334210449224153315923568746173942622953691822946661030675102521432611642240229275401846227272129040621830151840545231831743170995069649712416073473314411927259002193464168976315386662208491612197598655697221 [(([k] == ([10] : List Nat)), false), (false, false), (false, false), (true, true), (true, true), (([k] == ([39] : List Nat)), false), (hasS sES ⟨#[k]⟩, false)] [0,1,2,3,4] (fun _ => [ioObj X.ioD, ioDict X.Hi X.Ki X.buf X.tb X.nl (adv X.buf q : Nat) tp1 X.epi, shObj X.sd, sdDict X (.str ⟨#[39]⟩ ts) ⟨#[k]⟩ tk ln tl, rtFrame X.self Y true es te (some (h₀, k₀, (.str ⟨#[k]⟩ tk)))]) (fun _ => gLoop Y.L rt x) ?_ rfl (by decide) ?_ ?_
 · exact dsC d0 (dsC rfl (dsC rfl (dsC rfl (dsC rfl (dsC d5 (dsC d6 dsN))))))
 · cases a <;> (intro B2; kernel_rfl)
 · exact fun B2 s2 p2 _ h2 b2 => K s2 p2 _ _ _ _ _ _ _ _ _ h2 (Beh.trans b1 b2 fun _ z => z)
theorem t_q_bs_t (H : HpW (W3 w a b c) s.heap (lT X Y q tp (.str ⟨#[39]⟩ ts) ⟨⟨t0 :: tr⟩⟩ tt ln tl qd es te (some (h₀, k₀, v₀)))) (hf : X.buf.length ≤ 1000) (hq : q ≤ X.buf.length) (hc : nxt X.buf q = ⟨#[92]⟩) (d8 : (fits (⟨⟨t0 :: tr⟩⟩ ++ ⟨#[92]⟩ : Str).length) = true) (K : Cont (W3 w a b c) R X Y rt x s (adv X.buf q) ⟨#[39]⟩ (⟨⟨t0 :: tr⟩⟩ ++ ⟨#[92]⟩) true es) :
   wpCode (model prg (W3 w a b c)) (gLoop Y.L rt x) R p s := by
 refine turn_start H hf hq hc fun B s1 tk tp1 H1 b1 => ?_
 refine sn_again H1 296 948228187481779694457837692455344887076277076565213991910144689626336811389728800756042624441073433582565586752283690942639844936748307926834210755733426837018815629051840501051670826168595963976036673365953961296644691286297426268675503730769793712518385376944031852849706439292699435620856708938814609368356310157080342961075990082818953541 [(false, false), (false, false), (false, false), (true, true), (true, true), (false, false), (true, true), (false, false), (fits (⟨⟨t0 :: tr⟩⟩ ++ ⟨#[92]⟩ : Str).length, true)] [0,1,2,3,4] (fun _ => [ioObj X.ioD, ioDict X.Hi X.Ki X.buf X.tb X.nl (adv X.buf q : Nat) tp1 X.epi, shObj X.sd, sdDict X (.str ⟨#[39]⟩ ts) (⟨⟨t0 :: tr⟩⟩ ++ ⟨#[92]⟩) (s1.toks + 18) ln tl, rtFrame X.self Y true es te (some (h₀, k₀, (.str ⟨#[92]⟩ tk)))]) (fun _ => gLoop Y.L rt x) ?_ rfl (by decide) ?_ ?_
 · exact dsC rfl (dsC rfl (dsC rfl (dsC rfl (dsC rfl (dsC rfl (dsC rfl (dsC rfl (dsC d8 dsN))))))))
 · cases a <;> (intro B2; kernel_rfl)
 · exact fun B2 s2 p2 _ h2 b2 => K s2 p2 _ _ _ _ _ _ _ _ _ h2 (Beh.trans b1 b2 fun _ z => z)
theorem t_q_bs_e (H : HpW (W3 w a b c) s.heap (lT X Y q tp (.str ⟨#[39]⟩ ts) ⟨#[]⟩ tt ln tl qd es te (some (h₀, k₀, v₀)))) (hf : X.buf.length ≤ 1000) (hq : q ≤ X.buf.length) (hc : nxt X.buf q = ⟨#[92]⟩)  (K : Cont (W3 w a b c) R X Y rt x s (adv X.buf q) ⟨#[39]⟩ ⟨#[92]⟩ true es) :
   wpCode (model prg (W3 w a b c)) (gLoop Y.L rt x) R p s := by
 refine turn_start H hf hq hc fun B s1 tk tp1 H1 b1 => ?_
 refine sn_again H1 296 948228187481779694457837692455344887076277076565213991910144689626336811389728800756042624441073433582565586752283690942639844936748307926834210755733426837018815629051840501051670826168595963976036673365953961296644691286297426268675503730769793712518385376944031852849706439292699435620856708938814609368356310157080342961075990082818953541 [(false, false), (false, false), (false, false), (true, true), (true, true), (false, false), (true, true), (false, false)] [0,1,2,3,4] (fun _ => [ioObj X.ioD, ioDict X.Hi X.Ki X.buf X.tb X.nl (adv X.buf q : Nat) tp1 X.epi, shObj X.sd, sdDict X (.str ⟨#[39]⟩ ts) ⟨#[92]⟩ tk ln tl, rtFrame X.self Y true es te (some (h₀, k₀, (.str ⟨#[92]⟩ tk)))]) (fun _ => gLoop Y.L rt x) ?_ rfl (by decide) ?_ ?_
 · exact dsC rfl (dsC rfl (dsC rfl (dsC rfl (dsC rfl (dsC rfl (dsC rfl (dsC rfl dsN)))))))
 · cases a <;> (intro B2; kernel_rfl)
 · exact fun B2 s2 p2 _ h2 b2 => K s2 p2 _ _ _ _ _ _ _ _ _ h2 (Beh.trans b1 b2 fun _ z => z)
theorem t_d_cl (H : HpW (W3 w a b c) s.heap (lT X Y q tp (.str ⟨#[34]⟩ ts) tok tt ln tl qd es te (some (h₀, k₀, v₀)))) (hf : X.buf.length ≤ 1000) (hq : q ≤ X.buf.length) (hc : nxt X.buf q = ⟨#[34]⟩)  (K : Cont (W3 w a b c) R X Y rt x s (adv X.buf q) ⟨#[97]⟩ tok true es) :
   wpCode (model prg (W3 w a b c)) (gLoop Y.L rt x) R p s := by
 refine turn_start H hf hq hc fun B s1 tk tp1 H1 b1 => ?_
 refine sn_again H1 212 403751754146113741309592535749078018384249076281841430584394921744036937525465608917161772026923333978436603289572682155603976457032781175827879677241542568873703137120828965135824922924179093597449224080570908935443906733663060250949 [(false, false), (false, false), (false, false), (true, true), (true, true), (true, true)] [0,1,2,3,4] (fun _ => [ioObj X.ioD, ioDict X.Hi X.Ki X.buf X.tb X.nl (adv X.buf q : Nat) tp1 X.epi, shObj X.sd, sdDict X (.str ⟨#[97]⟩ (s1.toks + 14)) tok tt ln tl, rtFrame X.self Y true es te (some (h₀, k₀, (.str ⟨#[34]⟩ tk)))]) (fun _ => gLoop Y.L rt x) ?_ rfl (by decide) ?_ ?_
 · exact dsC rfl (dsC rfl (dsC rfl (dsC rfl (dsC rfl (dsC rfl dsN)))))
 · cases a <;> (intro B2; kernel_rfl)
 · exact fun B2 s2 p2 _ h2 b2 => K s2 p2 _ _ _ _ _ _ _ _ _ h2 (Beh.trans b1 b2 fun _ z => z)
theorem t_d_bs (H : HpW (W3 w a b c) s.heap (lT X Y q tp (.str ⟨#[34]⟩ ts) tok tt ln tl qd es te (some (h₀, k₀, v₀)))) (hf : X.buf.length ≤ 1000) (hq : q ≤ X.buf.length) (hc : nxt X.buf q = ⟨#[92]⟩)  (K : Cont (W3 w a b c) R X Y rt x s (adv X.buf q) ⟨#[92]⟩ tok true ⟨#[34]⟩) :
   wpCode (model prg (W3 w a b c)) (gLoop Y.L rt x) R p s := by
 refine turn_start H hf hq hc fun B s1 tk tp1 H1 b1 => ?_
 refine sn_again H1 303 3883942655925369628499303188297069095516396260047143786889866461198171258020656418816291443301406060723960579310489585977512062747639789176324311270740167039401735502537600294661895591232885827796606299726143255156875660261108549719900585771284954842621093162945760862125564381852777128044902656088347935955724200917651196441963708159005682848069 [(false, false), (false, false), (false, false), (true, true), (true, true), (false, false), (true, true), (true, true)] [0,1,2,3,4] (fun _ => [ioObj X.ioD, ioDict X.Hi X.Ki X.buf X.tb X.nl (adv X.buf q : Nat) tp1 X.epi, shObj X.sd, sdDict X (.str ⟨#[92]⟩ tk) tok tt ln tl, rtFrame X.self Y true ⟨#[34]⟩ ts (some (h₀, k₀, (.str ⟨#[92]⟩ tk)))]) (fun _ => gLoop Y.L rt x) ?_ rfl (by decide) ?_ ?_
 · exact dsC rfl (dsC rfl (dsC rfl (dsC rfl (dsC rfl (dsC rfl (dsC rfl (dsC rfl dsN)))))))
 · cases a <;> (intro B2; kernel_rfl)
 · exact fun B2 s2 p2 _ h2 b2 => K s2 p2 _ _ _ _ _ _ _ _ _ h2 (Beh.trans b1 b2 fun _ z => z)
theorem t_d_nl_t (H : HpW (W3 w a b c) s.heap (lT X Y q tp (.str ⟨#[34]⟩ ts) ⟨⟨t0 :: tr⟩⟩ tt ln tl qd es te (some (h₀, k₀, v₀)))) (hf : X.buf.length ≤ 1000) (hq : q ≤ X.buf.length) (hc : nxt X.buf q = ⟨#[10]⟩) (d8 : (fits (⟨⟨t0 :: tr⟩⟩ ++ ⟨#[10]⟩ : Str).length) = true) (K : Cont (W3 w a b c) R X Y rt x s (adv X.buf q) ⟨#[34]⟩ (⟨⟨t0 :: tr⟩⟩ ++ ⟨#[10]⟩) true es) :
   wpCode (model prg (W3 w a b c)) (gLoop Y.L rt x) R p s := by
 refine turn_start H hf hq hc fun B s1 tk tp1 H1 b1 => ?_
 refine sn_again H1 303 15908629118670313998333145859264891524974308989383133228498750049114011973436740271705090546055553015558539218537286435953720655840849403563167459193724825121423496530884654833160045608118691866374164603670099757641453021250371101871945136882892626783878343687953984855813378871498728774079353036610792626823582402894786189921594589984159002788122949 [(true, true), (true, true), (false, false), (false, false), (true, true), (true, true), (false, false), (false, false), (fits (⟨⟨t0 :: tr⟩⟩ ++ ⟨#[10]⟩ : Str).length, true)] [0,1,2,3,4] (fun _ => [ioObj X.ioD, ioDict X.Hi X.Ki X.buf X.tb X.nl (adv X.buf q : Nat) tp1 X.epi, shObj X.sd, sdDict X (.str ⟨#[34]⟩ ts) (⟨⟨t0 :: tr⟩⟩ ++ ⟨#[10]⟩) (s1.toks + 21) (ln + 1) (s1.toks + 4), rtFrame X.self Y true es te (some (h₀, k₀, (.str ⟨#[10]⟩ tk)))]) (fun _ => gLoop Y.L rt x) ?_ rfl (by decide) ?_ ?_
 · exact dsC rfl (dsC rfl (dsC rfl (dsC rfl (dsC rfl (dsC rfl (dsC rfl (dsC rfl (dsC d8 dsN))))))))
 · cases a <;> (intro B2; kernel_rfl)
 · exact fun B2 s2 p2 _ h2 b2 => K s2 p2 _ _ _ _ _ _ _ _ _ h2 (Beh.trans b1 b2 fun _ z => z)
theorem t_d_ot_t (H : HpW (W3 w a b c) s.heap (lT X Y q tp (.str ⟨#[34]⟩ ts) ⟨⟨t0 :: tr⟩⟩ tt ln tl qd es te (some (h₀, k₀, v₀)))) (hf : X.buf.length ≤ 1000) (hq : q ≤ X.buf.length) (hc : nxt X.buf q = ⟨#[k]⟩) (d0 : (([k] == ([10] : List Nat))) = false) (d5 : (([k] == ([34] : List Nat))) = false) (d6 : (hasS sES ⟨#[k]⟩) = false) (d7 : (fits (⟨⟨t0 :: tr⟩⟩ ++ ⟨#[k]⟩ : Str).length) = true) (K : Cont (W3 w a b c) R X Y rt x s (adv X.buf q) ⟨#[34]⟩ (⟨⟨t0 :: tr⟩⟩ ++ ⟨#[k]⟩) true es) :
   wpCode (model prg (W3 w a b c)) (gLoop Y.L rt x) R p s := by
 refine turn_start H hf hq hc fun B s1 tk tp1 H1 b1 => ?_
 refine sn_again H1 256 39599856822124797590235056234138193178002984768139446233254204504172200935905463301334210449224153315923568746173942622953691822946661030675102521432611642240229275401846227272129040621830151840545231831743170995069649712416073473314411927259002193464168976315386662208491612197598655697221 [(([k] == ([10] : List Nat)), false), (false, false), (false, false), (true, true), (true, true), (([k] == ([34] : List Nat)), false), (hasS sES ⟨#[k]⟩, false), (fits (⟨⟨t0 :: tr⟩⟩ ++ ⟨#[k]⟩ : Str).length, true)] [0,1,2,3,4] (fun _ => [ioObj X.ioD, ioDict X.Hi X.Ki X.buf X.tb X.nl (adv X.buf q : Nat) tp1 X.epi, shObj X.sd, sdDict X (.str ⟨#[34]⟩ ts) (⟨⟨t0 :: tr⟩⟩ ++ ⟨#[k]⟩) (s1.toks + 16) ln tl, rtFrame X.self Y true es te (some (h₀, k₀, (.str ⟨#[k]⟩ tk)))]) (fun _ => gLoop Y.L rt x) ?_ rfl (by decide) ?_ ?_
 · exact dsC d0 (dsC rfl (dsC rfl (dsC rfl (dsC rfl (dsC d5 (dsC d6 (dsC d7 dsN)))))))
 · cases a <;> (intro B2; kernel_rfl)
 · exact fun B2 s2 p2 _ h2 b2 => K s2 p2 _ _ _ _ _ _ _ _ _ h2 (Beh.trans b1 b2 fun _ z => z)
theorem t_d_ot_e (H : HpW (W3 w a b c) s.heap (lT X Y q tp (.str ⟨#[34]⟩ ts) ⟨#[]⟩ tt ln tl qd es te (some (h₀, k₀, v₀)))) (hf : X.buf.length ≤ 1000) (hq : q ≤ X.buf.length) (hc : nxt X.buf q = ⟨#[k]⟩) (d0 : (([k] == ([10] : List Nat))) = false) (d5 : (([k] == ([34] : List Nat))) = false) (d6 : (hasS sES ⟨#[k]⟩) = false) (K : Cont (W3 w a b c) R X Y rt x s (adv X.buf q) ⟨#[34]⟩ ⟨#[k]⟩ true es) :
   wpCode (model prg (W3 w a b c)) (gLoop Y.L rt x) R p s := by
 refine turn_start H hf hq hc fun B s1 tk tp1 H1 b1 => ?_
 refine sn_again H1 256 39599856822124797590235056234138193178002984768139446233254204504172200935905463301334210449224153315923568746173942622953691822946661030675102521432611642240229275401846227272129040621830151840545231831743170995069649712416073473314411927259002193464168976315386662208491612197598655697221 [(([k] == ([10] : List Nat)), false), (false, false), (false, false), (true, true), (true, true), (([k] == ([34] : List Nat)), false), (hasS sES ⟨#[k]⟩, false)] [0,1,2,3,4] (fun _ => [ioObj X.ioD, ioDict X.Hi X.Ki X.buf X.tb X.nl (adv X.buf q : Nat) tp1 X.epi, shObj X.sd, sdDict X (.str ⟨#[34]⟩ ts) ⟨#[k]⟩ tk ln tl, rtFrame X.self Y true es te (some (h₀, k₀, (.str ⟨#[k]⟩ tk)))]) (fun _ => gLoop Y.L rt x) ?_ rfl (by decide) ?_ ?_
 · exact dsC d0 (dsC rfl (dsC rfl (dsC rfl (dsC rfl (dsC d5 (dsC d6 dsN))))))
 · cases a <;> (intro B2; kernel_rfl)
 · exact fun B2 s2 p2 _ h2 b2 => K s2 p2 _ _ _ _ _ _ _ _ _ h2 (Beh.trans b1 b2 fun _ z => z)
theorem t_b_bs_t (H : HpW (W3 w a b c) s.heap (lT X Y q tp (.str ⟨#[92]⟩ ts) ⟨⟨t0 :: tr⟩⟩ tt ln tl qd ⟨#[34]⟩ te (some (h₀, k₀, v₀)))) (hf : X.buf.length ≤ 1000) (hq : q ≤ X.buf.length) (hc : nxt X.buf q = ⟨#[92]⟩) (d8 : (fits (⟨⟨t0 :: tr⟩⟩ ++ ⟨#[92]⟩ : Str).length) = true) (K : Cont (W3 w a b c) R X Y rt x s (adv X.buf q) ⟨#[34]⟩ (⟨⟨t0 :: tr⟩⟩ ++ ⟨#[92]⟩) qd ⟨#[34]⟩) :
   wpCode (model prg (W3 w a b c)) (gLoop Y.L rt x) R p s := by
 refine turn_start H hf hq hc fun B s1 tk tp1 H1 b1 => ?_
 refine sn_again H1 297 15908629118670313998333145859264795012243797696513052086470705271717339902068006543744669745215582813684267756201815222356503023451076569977136332936466265472966246126000730430719552354271969175634185527289436843168646636913561323776346162831525257097460942666165544765725287461897231672054023457670536483186774280224922095572560446670624799953539397 [(false, false), (false, false), (false, false), (false, false), (true, true), (true, true), (true, true), (false, false), (fits (⟨⟨t0 :: tr⟩⟩ ++ ⟨#[92]⟩ : Str).length, true)] [0,1,2,3,4] (fun _ => [ioObj X.ioD, ioDict X.Hi X.Ki X.buf X.tb X.nl (adv X.buf q : Nat) tp1 X.epi, shObj X.sd, sdDict X (.str ⟨#[34]⟩ te) (⟨⟨t0 :: tr⟩⟩ ++ ⟨#[92]⟩) (s1.toks + 16) ln tl, rtFrame X.self Y qd ⟨#[34]⟩ te (some (h₀, k₀, (.str ⟨#[92]⟩ tk)))]) (fun _ => gLoop Y.L rt x) ?_ rfl (by decide) ?_ ?_
 · exact dsC rfl (dsC rfl (dsC rfl (dsC rfl (dsC rfl (dsC rfl (dsC rfl (dsC rfl (dsC d8 dsN))))))))
 · cases a <;> (intro B2; kernel_rfl)
 · exact fun B2 s2 p2 _ h2 b2 => K s2 p2 _ _ _ _ _ _ _ _ _ h2 (Beh.trans b1 b2 fun _ z => z)
theorem t_b_dq_t (H : HpW (W3 w a b c) s.heap (lT X Y q tp (.str ⟨#[92]⟩ ts) ⟨⟨t0 :: tr⟩⟩ tt ln tl qd ⟨#[34]⟩ te (some (h₀, k₀, v₀)))) (hf : X.buf.length ≤ 1000) (hq : q ≤ X.buf.length) (hc : nxt X.buf q = ⟨#[34]⟩) (d9 : (fits (⟨⟨t0 :: tr⟩⟩ ++ ⟨#[34]⟩ : Str).length) = true) (K : Cont (W3 w a b c) R X Y rt x s (adv X.buf q) ⟨#[34]⟩ (⟨⟨t0 :: tr⟩⟩ ++ ⟨#[34]⟩) qd ⟨#[34]⟩) :
   wpCode (model prg (W3 w a b c)) (gLoop Y.L rt x) R p s := by
 refine turn_start H hf hq hc fun B s1 tk tp1 H1 b1 => ?_
 refine sn_again H1 304 4170351671684710792779044188131110423689638103354717526155776562749070351287715507403402705689793741616213521144680427689849138481318515680317219888199656829068137572638468182585109758302191200991837080581442494957394487612994355606383129153455540963341249872562173805771971965739025566786042309997882370332519892803015614664950739297152578870638706708805 [(false, false), (false, false), (false, false), (false, false), (true, true), (true, true), (true, true), (true, true), (false, false), (fits (⟨⟨t0 :: tr⟩⟩ ++ ⟨#[34]⟩ : Str).length, true)] [0,1,2,3,4] (fun _ => [ioObj X.ioD, ioDict X.Hi X.Ki X.buf X.tb X.nl (adv X.buf q : Nat) tp1 X.epi, shObj X.sd, sdDict X (.str ⟨#[34]⟩ te) (⟨⟨t0 :: tr⟩⟩ ++ ⟨#[34]⟩) (s1.toks + 16) ln tl, rtFrame X.self Y qd ⟨#[34]⟩ te (some (h₀, k₀, (.str ⟨#[34]⟩ tk)))]) (fun _ => gLoop Y.L rt x) ?_ rfl (by decide) ?_ ?_
 · exact dsC rfl (dsC rfl (dsC rfl (dsC rfl (dsC rfl (dsC rfl (dsC rfl (dsC rfl (dsC rfl (dsC d9 dsN)))))))))
 · cases a <;> (intro B2; kernel_rfl)
 · exact fun B2 s2 p2 _ h2 b2 => K s2 p2 _ _ _ _ _ _ _ _ _ h2 (Beh.trans b1 b2 fun _ z => z)
end
end Mine
end
section
namespace Mine
open PySem PySem.W
open PySem.StrLaws
noncomputable def skipTo (c : Nat) : List Nat → Nat
 | [] => 0
 | y :: l => if y = c then 1 else skipTo c l + 1
noncomputable def firstAt (c : Nat) : Nat → List Nat → List Nat
 | _, [] => []
 | lo, y :: l => if y = c then [lo] else firstAt c (lo + 1) l
theorem occ_full (s sub : Str) (hi : Nat) : ∀ (l : List Nat) (st : Array Nat × Nat), 1 ≤ st.fst.size → (forIn l st (occBody s sub hi 1)).run.fst = st.fst
 | [], st, h => rfl
 | a :: l, st, h => by
   rw [List.forIn_cons]
   unfold occBody
   rw [if_neg (by omega)]
   exact occ_full s sub hi l _ h
theorem occ_walk (x : Str) (c : Nat) : ∀ (n lo free : Nat), free ≤ lo → lo + n = x.length + 1 →
   (forIn (List.range' lo n) ((#[] : Array Nat), free) (occBody x ⟨#[c]⟩ x.length 1)).run.fst.toList = firstAt c lo (x.cps.toList.drop lo)
 | 0, lo, free, _, h => by
   have : x.cps.toList.drop lo = [] := List.drop_of_length_le (by have : x.length = x.cps.size := rfl; simp; omega)
   rw [this]; rfl
 | n + 1, lo, free, hf, h => by
   have e : List.range' lo (n + 1) = lo :: List.range' (lo + 1) n := List.range'_succ ..
   rw [e, List.forIn_cons]
   by_cases hc : x.cps.toList[lo]? = some c
   · have h2 := (subAt_one x c lo).mpr hc
     have : occBody x ⟨#[c]⟩ x.length 1 lo ((#[] : Array Nat), free) = pure (ForInStep.yield ((#[] : Array Nat).push lo, lo + (⟨#[c]⟩ : Str).length)) := by
       unfold occBody
       rw [if_pos ⟨⟨⟨by simp, hf⟩, h2.1⟩, h2.2⟩]
     rw [this]
     show (forIn (List.range' (lo + 1) n) ((#[] : Array Nat).push lo, lo + 1) (occBody x ⟨#[c]⟩ x.length 1)).run.fst.toList = _
     rw [occ_full _ _ _ _ _ (by simp)]
     obtain ⟨hlt, hg⟩ := List.getElem?_eq_some_iff.mp hc
     rw [List.drop_eq_getElem_cons hlt, hg]
     simp [firstAt]
   · have : occBody x ⟨#[c]⟩ x.length 1 lo ((#[] : Array Nat), free) = pure (ForInStep.yield ((#[] : Array Nat), free)) := by
       unfold occBody
       rw [if_neg fun h => hc ((subAt_one x c lo).mp ⟨h.1.2, h.2⟩)]
     rw [this]
     show (forIn (List.range' (lo + 1) n) ((#[] : Array Nat), free) (occBody x ⟨#[c]⟩ x.length 1)).run.fst.toList = _
     rw [occ_walk x c n (lo + 1) free (by omega) (by omega)]
     by_cases hl : lo < x.cps.toList.length
     · rw [List.drop_eq_getElem_cons hl]
       have hn : x.cps.toList[lo] ≠ c := fun q => hc (by rw [List.getElem?_eq_getElem hl, q])
       show _ = if _ then _ else _
       rw [if_neg hn]
     · rw [List.drop_of_length_le (by omega), List.drop_of_length_le (by omega)]; rfl
theorem occ_first (x : Str) (c lo : Nat) (h : lo ≤ x.length) : Builtin.Str.occurrences x ⟨#[c]⟩ lo x.length 1 = firstAt c lo (x.cps.toList.drop lo) := by
 rw [occ_eq]
 exact occ_walk x c _ lo lo (Nat.le_refl _) (by omega)
theorem firstAt_none {c : Nat} : ∀ {lo : Nat} {l : List Nat}, c ∉ l → firstAt c lo l = [] ∧ skipTo c l = l.length
 | lo, [], _ => ⟨rfl, rfl⟩
 | lo, y :: l, h => by
   have hy : y ≠ c := fun e => h (e ▸ .head _)
   have := firstAt_none (lo := lo + 1) (l := l) fun m => h (.tail _ m)
   exact ⟨by show (if y = c then _ else _) = _; rw [if_neg hy]; exact this.1, by show (if y = c then _ else _) = _; rw [if_neg hy, this.2]; rfl⟩
theorem firstAt_some {c : Nat} : ∀ {lo : Nat} {l : List Nat}, c ∈ l → ∃ k, firstAt c lo l = [k] ∧ k + 1 = lo + skipTo c l ∧ lo ≤ k ∧ skipTo c l ≤ l.length
 | lo, y :: l, h => by
   by_cases hy : y = c
   · refine ⟨lo, ?_, ?_, Nat.le_refl _, ?_⟩
     · show (if y = c then _ else _) = _; rw [if_pos hy]
     · show _ = lo + if y = c then _ else _; rw [if_pos hy]
     · show (if y = c then _ else _) ≤ _; rw [if_pos hy]; simp
   · obtain ⟨k, h1, h2, h3, h4⟩ := firstAt_some (lo := lo + 1) (l := l) ((List.mem_cons.mp h).resolve_left fun e => hy e.symm)
     refine ⟨k, ?_, ?_, by omega, ?_⟩
     · show (if y = c then _ else _) = _; rw [if_neg hy]; exact h1
     · show _ = lo + if y = c then _ else _; rw [if_neg hy]; omega
     · show (if y = c then _ else _) ≤ _; rw [if_neg hy]; simp; omega
noncomputable def lend (buf : Str) (q : Nat) : Nat := q + skipTo 10 (buf.cps.toList.drop q)
noncomputable abbrev cLine (io : Nat) : Code := .call (.ref 564) ⟨[.ref io], []⟩
noncomputable abbrev gLine (io : Nat) (x : S4) : Ctx := ⟨cLine io, none, none, x.l, none⟩
noncomputable def LinePost (w : World) (io ioD : Nat) (H : Nat → Int) (K : Nat → Nat) (buf : Str) (tb : Nat) (nl : Value) (q ep : Nat) (s : Shared) (r : Result) (s' : Shared) : Prop :=
 ∃ v tv tp', r = .ok (.ret (.str v tv)) ∧ HpW w s'.heap (lRead io ioD H K buf tb nl (lend buf q : Nat) tp' ep) ∧ Beh [io, ioD] s s'
section
variable {w : World} {a b c : Bool} {s : Shared} {io ioD tb tp ep q tn : Nat} {H : Nat → Int} {K : Nat → Nat} {buf : Str} {x : S4} {p : Pos}
theorem fnd_none (hq : q ≤ buf.length) (h : 10 ∉ buf.cps.toList.drop q) : fnd buf ⟨#[10]⟩ ((q : Int)).toNat ((buf.length : Int)).toNat = -1 ∧ lend buf q = buf.length := by
 have e := firstAt_none (lo := q) h
 refine ⟨?_, ?_⟩
 · unfold fnd
   rw [show (q : Int).toNat = q from by omega, show (buf.length : Int).toNat = buf.length from by omega, occ_first buf 10 q hq, e.1]
 · unfold lend
   rw [e.2, List.length_drop]
   have : buf.length = buf.cps.toList.length := by simp [Str.length]
   omega
theorem fnd_some (hq : q ≤ buf.length) (h : 10 ∈ buf.cps.toList.drop q) : ∃ k : Nat, fnd buf ⟨#[10]⟩ ((q : Int)).toNat ((buf.length : Int)).toNat = k ∧ k + 1 = lend buf q ∧ q ≤ k ∧ k + 1 ≤ buf.length := by
 obtain ⟨k, h1, h2, h3, h4⟩ := firstAt_some (lo := q) h
 refine ⟨k, ?_, h2, h3, ?_⟩
 · unfold fnd
   rw [show (q : Int).toNat = q from by omega, show (buf.length : Int).toNat = buf.length from by omega, occ_first buf 10 q hq, h1]
 · rw [List.length_drop] at h4
   have : buf.length = buf.cps.toList.length := by simp [Str.length]
   omega
theorem line0 (hH : HpW (W3 w a b c) s.heap (lRead io ioD H K buf tb (.str ⟨#[10]⟩ tn) q tp ep)) (hf : buf.length ≤ 1000) (hq : q = buf.length) :
   wpCode (model prg (W3 w a b c)) (gLine io x) (LinePost (W3 w a b c) io ioD H K buf tb (.str ⟨#[10]⟩ tn) q ep s) p s := by
 refine code_mn (c := cLine io) rfl (sn_ok hH 323 376462948213328144573964659489980738368095525308443074043021834512143626021787245829322839059188089927177662585101868039447342089982042379412458493713158488989328857060100170551398597344220352275918401864771389213290048964208770927521424353487300642659785250393321752555169335332754653296462321723796420335001665152554136358354944 [(false, false), (false, false), (fits buf.length, true), (decide ((q : Int) ≥ (buf.length : Int)), true)] [0,1] (fun _ => [ioObj ioD, ioDict H K buf tb (.str ⟨#[10]⟩ tn) ((q : Int)) tp ep]) (fun _ => .ret (.str ⟨#[]⟩ (s.toks + 20))) ?_ ?_ (by decide) ?_ ?_)
 · have hfit := fits_of hf
   exact dsC rfl (dsC rfl (dsC hfit (dsC (decide_eq_true (by omega)) dsN)))
 · kernel_rfl
 · cases a <;> (intro B; kernel_rfl)
 · intro B s' hB h1 h2
   refine ⟨_, _, tp, rfl, ?_, h2⟩
   have e : lend buf q = q := by
     subst hq
     unfold lend
     rw [List.drop_of_length_le (by show buf.cps.toList.length ≤ buf.cps.size; simp)]
     rfl
   rw [e]; exact h1
theorem line1 (hH : HpW (W3 w a b c) s.heap (lRead io ioD H K buf tb (.str ⟨#[10]⟩ tn) q tp ep)) (hf : buf.length ≤ 1000) (hq : q < buf.length) (h0 : 0 < q) (hn : 10 ∉ buf.cps.toList.drop q) :
   wpCode (model prg (W3 w a b c)) (gLine io x) (LinePost (W3 w a b c) io ioD H K buf tb (.str ⟨#[10]⟩ tn) q ep s) p s := by
 refine code_mn (c := cLine io) rfl (sn_ok hH 520 34373459153928380191437966049554940877618697748081135346076614450967725828127388601880213731595105868354925139845398787440746111613641122760039226836342235692655618182501662775267412488266514218692952557422075639006433315222641085128123617964021140596103079750042427837459029614036465021410964576397734375937304072375385998351092004319796800284677609071782234637818634975316963558496956564119106455737559421854993708416368048503173774154023927613325775500849590350417328487589030111845280876535001972283146046225411029393628856598483565326106624 [(false, false), (false, false), (fits buf.length, true), (decide ((q : Int) ≥ (buf.length : Int)), false), (false, false), (false, false), (decide (0 ≤ (q : Int)) && decide (0 ≤ (buf.length : Int)) && decide ((buf.length : Int) ≤ (buf.length : Int)), true), (decide (fnd buf ⟨#[10]⟩ ((q : Int)).toNat ((buf.length : Int)).toNat ≥ 0), false), (fits buf.length && decide (0 ≤ (q : Int)) && decide ((q : Int) ≤ (buf.length : Int)) && decide ((buf.length : Int) ≤ (buf.length : Int)) && Nat.blt (((buf.length : Int)).toNat - ((q : Int)).toNat) buf.length, true)] [0,1] (fun _ => [ioObj ioD, ioDict H K buf tb (.str ⟨#[10]⟩ tn) ((buf.length : Int)) (s.toks + 18) ep]) (fun _ => .ret (.str (slc buf (q : Int).toNat (buf.length : Int).toNat) (s.toks + 33))) ?_ ?_ (by decide) ?_ ?_)
 · have hfit := fits_of hf
   obtain ⟨e, _⟩ := fnd_none (Nat.le_of_lt hq) hn
   have hb : Nat.blt ((buf.length : Int).toNat - (q : Int).toNat) buf.length = true := Nat.ble_eq_true_of_le (by omega)
   refine dsC rfl (dsC rfl (dsC hfit (dsC (decide_eq_false (by omega)) (dsC rfl (dsC rfl (dsC ?_ (dsC (decide_eq_false (by rw [e]; omega)) (dsC ?_ dsN))))))))
   · simp only [Bool.and_eq_true, decide_eq_true_eq]; omega
   · simp only [hfit, hb, Bool.true_and, Bool.and_true, Bool.and_eq_true, decide_eq_true_eq]; omega
 · kernel_rfl
 · cases a <;> (intro B; kernel_rfl)
 · intro B s' hB h1 h2
   refine ⟨_, _, s.toks + 18, rfl, ?_, h2⟩
   rw [(fnd_none (Nat.le_of_lt hq) hn).2]; exact h1
theorem line2 (hH : HpW (W3 w a b c) s.heap (lRead io ioD H K buf tb (.str ⟨#[10]⟩ tn) q tp ep)) (hf : buf.length ≤ 1000) (hq : q < buf.length) (h0 : 0 < q) (hn : 10 ∈ buf.cps.toList.drop q) :
   wpCode (model prg (W3 w a b c)) (gLine io x) (LinePost (W3 w a b c) io ioD H K buf tb (.str ⟨#[10]⟩ tn) q ep s) p s := by
 refine code_mn (c := cLine io) rfl (sn_ok hH 540 9675268614816676108598003852613830995121657950117384884450014067248816323513656997770604189233387998011068735347944541746095422345353831659369718073805547886914774573951270521106809539588312371293700510903875170615565789750240372149788090229783122659675504161878970647631702944950588983406297820255843427687486825371157861325819443584362630543415053857610405156515957551824130971397169191948807096838871934390967404723022713629294509706320752814646892161910637836609517085159609292923933806525377665966248229612599824577502838675103089695586511644967631060992 [(false, false), (false, false), (fits buf.length, true), (decide ((q : Int) ≥ (buf.length : Int)), false), (false, false), (false, false), (decide (0 ≤ (q : Int)) && decide (0 ≤ (buf.length : Int)) && decide ((buf.length : Int) ≤ (buf.length : Int)), true), (decide (fnd buf ⟨#[10]⟩ ((q : Int)).toNat ((buf.length : Int)).toNat ≥ 0), true), (true, true), (true, true), (fits buf.length && decide (0 ≤ (q : Int)) && decide ((q : Int) ≤ (fnd buf ⟨#[10]⟩ ((q : Int)).toNat ((buf.length : Int)).toNat + 1)) && decide ((fnd buf ⟨#[10]⟩ ((q : Int)).toNat ((buf.length : Int)).toNat + 1) ≤ (buf.length : Int)) && Nat.blt (((fnd buf ⟨#[10]⟩ ((q : Int)).toNat ((buf.length : Int)).toNat + 1)).toNat - ((q : Int)).toNat) buf.length, true)] [0,1] (fun _ => [ioObj ioD, ioDict H K buf tb (.str ⟨#[10]⟩ tn) (fnd buf ⟨#[10]⟩ ((q : Int)).toNat ((buf.length : Int)).toNat + 1) (s.toks + 32) ep]) (fun _ => .ret (.str (slc buf (q : Int).toNat (fnd buf ⟨#[10]⟩ ((q : Int)).toNat ((buf.length : Int)).toNat + 1).toNat) (s.toks + 37))) ?_ ?_ (by decide) ?_ ?_)
 · have hfit := fits_of hf
   obtain ⟨k, e, _, h3, h4⟩ := fnd_some (Nat.le_of_lt hq) hn
   have hb : Nat.blt (((k : Int) + 1).toNat - (q : Int).toNat) buf.length = true := Nat.ble_eq_true_of_le (by omega)
   refine dsC rfl (dsC rfl (dsC hfit (dsC (decide_eq_false (by omega)) (dsC rfl (dsC rfl (dsC ?_ (dsC (decide_eq_true (by rw [e]; omega)) (dsC rfl (dsC rfl (dsC ?_ dsN))))))))))
   · simp only [Bool.and_eq_true, decide_eq_true_eq]; omega
   · rw [e]
     simp only [hfit, hb, Bool.true_and, Bool.and_true, Bool.and_eq_true, decide_eq_true_eq]; omega
 · kernel_rfl
 · cases a <;> (intro B; kernel_rfl)
 · intro B s' hB h1 h2
   refine ⟨_, _, s.toks + 32, rfl, ?_, h2⟩
   obtain ⟨k, e, h2, h3, h4⟩ := fnd_some (Nat.le_of_lt hq) hn
   have z : ((lend buf q : Nat) : Int) = fnd buf ⟨#[10]⟩ ((q : Int)).toNat ((buf.length : Int)).toNat + 1 := by rw [e, ← h2]; rfl
   rw [z]; exact h1
theorem line_spec {nl : Value} (hH : HpW (W3 w a b c) s.heap (lRead io ioD H K buf tb nl q tp ep)) (hnl : nl = .str ⟨#[10]⟩ tn) (hf : buf.length ≤ 1000) (hq : q ≤ buf.length) (h0 : 0 < q) :
   wpCode (model prg (W3 w a b c)) (gLine io x) (LinePost (W3 w a b c) io ioD H K buf tb nl q ep s) p s := by
 subst hnl
 by_cases h1 : q = buf.length
 · exact line0 hH hf h1
 · by_cases h2 : 10 ∈ buf.cps.toList.drop q
   · exact line2 hH hf (by omega) h0 h2
   · exact line1 hH hf (by omega) h0 h2
end
end Mine
end
section
namespace Mine
open PySem PySem.W
theorem Beh.widen {as bs : List Nat} {s s' : Shared} (h : Beh as s s') (hb : ∀ a ∈ as, a ∈ bs) : Beh bs s s' :=
 ⟨fun b o e n => h.keep b o e fun q => n (hb b q), h.gens, h.drawn, h.os⟩
theorem nxt_lt {buf : Str} {q k : Nat} (h : nxt buf q = ⟨#[k]⟩) : q < buf.length := by
 refine Nat.lt_of_not_le fun hl => ?_
 have e : nxt buf q = ⟨#[]⟩ := by
   unfold nxt
   rw [List.drop_of_length_le (by have : buf.length = buf.cps.size := rfl; simp; omega)]
   rfl
 rw [e] at h
 cases h
theorem adv_le {buf : Str} {q : Nat} (h : q ≤ buf.length) : adv buf q ≤ buf.length := by unfold adv; omega
theorem adv_pos {buf : Str} {q k : Nat} (h : nxt buf q = ⟨#[k]⟩) : 0 < adv buf q := by have := nxt_lt h; unfold adv; omega
section
variable {w : World} {a b c : Bool} {s : Shared} {X : Lx} {Y : Rt} {q tp ts tt tl te tn k k₀ t0 : Nat} {tr : List Nat} {h₀ : Int} {v₀ : Value} {tok es : Str} {ln : Int} {qd : Bool} {rt : Fm} {x : S3} {p : Pos} {R : Result → Shared → Prop}
theorem t_sp_cm_A (H : HpW (W3 w a b c) s.heap (lT X Y q tp (.str ⟨#[32]⟩ ts) ⟨#[]⟩ tt ln tl false es te none)) (hnl : X.nl = .str ⟨#[10]⟩ tn) (hf : X.buf.length ≤ 1000) (hq : q ≤ X.buf.length) (hc : nxt X.buf q = ⟨#[35]⟩) (d25 : (hasS X.cm ⟨#[35]⟩) = true) (K : Cont (W3 w a b c) R X Y rt x s (lend X.buf (adv X.buf q)) ⟨#[32]⟩ ⟨#[]⟩ false es) :
   wpCode (model prg (W3 w a b c)) (gLoop Y.L rt x) R p s := by
 refine turn_start H hf hq hc fun B s1 tk tp1 H1 b1 => ?_
 refine sn_call H1 184 2714230125218556262978980218931256787509141847542815164862323371013900970987509764925155881322985925997800276579042950877099798548288133159508361816525221506167154451904782699725522460844138866453744035918491439429 [(false, false), (false, false), (true, true), (true, true), (false, false), (hasS X.cm ⟨#[35]⟩, true)] [0,1,2,3,4] (fun _ => [ioObj X.ioD, ioDict X.Hi X.Ki X.buf X.tb X.nl (adv X.buf q : Nat) tp1 X.epi, shObj X.sd, sdDict X (.str ⟨#[32]⟩ ts) ⟨#[]⟩ tt ln tl, rtFrame X.self Y false es te (some ((reduceHash ((W3 w a b c).params.strHash sNC.cps)), s1.toks, (.str ⟨#[35]⟩ tk)))]) (fun _ => gLine X.io (s4Of Y.L rt x ⟨607,20,607,44⟩)) true ?_ ?_ (by decide) ?_ ?_
 · exact dsC rfl (dsC rfl (dsC rfl (dsC rfl (dsC rfl (dsC d25 dsN)))))
 · kernel_rfl
 · cases a <;> (intro B2; kernel_rfl)
 · intro B2 s2 p2 hB h2 b2
   refine wpCode_mono (fun r s3 hr => ?_) (line_spec (Hp.part (A := lIo X (adv X.buf q : Nat) tp1) (C := [(X.self, shObj X.sd), (X.sd, sdDict X (.str ⟨#[32]⟩ ts) ⟨#[]⟩ tt ln tl), (Y.L, rtFrame X.self Y false es te (some ((reduceHash ((W3 w a b c).params.strHash sNC.cps)), s1.toks, (.str ⟨#[35]⟩ tk))))]) h2) hnl hf (adv_le hq) (adv_pos hc))
   obtain ⟨v, tv, tp3, e, h3, b3⟩ := hr
   subst e
   have H3 := Hp.join (A := lIo X (adv X.buf q : Nat) tp1) (A' := lIo X (lend X.buf (adv X.buf q) : Nat) tp3) (C := [(X.self, shObj X.sd), (X.sd, sdDict X (.str ⟨#[32]⟩ ts) ⟨#[]⟩ tt ln tl), (Y.L, rtFrame X.self Y false es te (some ((reduceHash ((W3 w a b c).params.strHash sNC.cps)), s1.toks, (.str ⟨#[35]⟩ tk))))]) h2 h3 b3 rfl
   have b3' : Beh (keysT X Y) s2 s3 := Beh.widen b3 (by intro z hz; simp only [List.mem_cons, List.not_mem_nil, or_false] at hz ⊢; rcases hz with h | h <;> simp [h])
   clear b3; have b3 := b3'
   refine sn_again H3 48 25506856904605178547222905988385392951044569689963028807877 [(true, true)] [0,1,2,3,4] (fun _ => [ioObj X.ioD, ioDict X.Hi X.Ki X.buf X.tb X.nl (lend X.buf (adv X.buf q) : Nat) tp3 X.epi, shObj X.sd, sdDict X (.str ⟨#[32]⟩ ts) ⟨#[]⟩ tt (ln + 1) (s3.toks + 2), rtFrame X.self Y false es te (some ((reduceHash ((W3 w a b c).params.strHash sNC.cps)), s1.toks, (.str ⟨#[35]⟩ tk)))]) (fun _ => gLoop Y.L rt x) ?_ ?_ (by decide) ?_ ?_
   · exact dsC rfl dsN
   · kernel_rfl
   · cases a <;> (intro B4; kernel_rfl)
   · exact fun B4 s4 p4 _ h4 b4 => K s4 p4 _ _ _ _ _ _ _ _ _ h4 (Beh.trans b1 (Beh.trans b2 (Beh.trans b3 b4 fun _ z => z) fun _ z => z) fun _ z => z)
theorem t_sp_cm_B (H : HpW (W3 w a b c) s.heap (lT X Y q tp (.str ⟨#[32]⟩ ts) ⟨#[]⟩ tt ln tl false es te (some (h₀, k₀, v₀)))) (hnl : X.nl = .str ⟨#[10]⟩ tn) (hf : X.buf.length ≤ 1000) (hq : q ≤ X.buf.length) (hc : nxt X.buf q = ⟨#[35]⟩) (d25 : (hasS X.cm ⟨#[35]⟩) = true) (K : Cont (W3 w a b c) R X Y rt x s (lend X.buf (adv X.buf q)) ⟨#[32]⟩ ⟨#[]⟩ false es) :
   wpCode (model prg (W3 w a b c)) (gLoop Y.L rt x) R p s := by
 refine turn_start H hf hq hc fun B s1 tk tp1 H1 b1 => ?_
 refine sn_call H1 184 2714230125218556262978980218931256787509141847542815164862323371013900970987509764925155881322985925997800276579042950877099798548288133159508361816525221506167154451904782699725522460844138866453744035918491439429 [(false, false), (false, false), (true, true), (true, true), (false, false), (hasS X.cm ⟨#[35]⟩, true)] [0,1,2,3,4] (fun _ => [ioObj X.ioD, ioDict X.Hi X.Ki X.buf X.tb X.nl (adv X.buf q : Nat) tp1 X.epi, shObj X.sd, sdDict X (.str ⟨#[32]⟩ ts) ⟨#[]⟩ tt ln tl, rtFrame X.self Y false es te (some (h₀, k₀, (.str ⟨#[35]⟩ tk)))]) (fun _ => gLine X.io (s4Of Y.L rt x ⟨607,20,607,44⟩)) true ?_ ?_ (by decide) ?_ ?_
 · exact dsC rfl (dsC rfl (dsC rfl (dsC rfl (dsC rfl (dsC d25 dsN)))))
 · kernel_rfl
 · cases a <;> (intro B2; kernel_rfl)
 · intro B2 s2 p2 hB h2 b2
   refine wpCode_mono (fun r s3 hr => ?_) (line_spec (Hp.part (A := lIo X (adv X.buf q : Nat) tp1) (C := [(X.self, shObj X.sd), (X.sd, sdDict X (.str ⟨#[32]⟩ ts) ⟨#[]⟩ tt ln tl), (Y.L, rtFrame X.self Y false es te (some (h₀, k₀, (.str ⟨#[35]⟩ tk))))]) h2) hnl hf (adv_le hq) (adv_pos hc))
   obtain ⟨v, tv, tp3, e, h3, b3⟩ := hr
   subst e
   have H3 := Hp.join (A := lIo X (adv X.buf q : Nat) tp1) (A' := lIo X (lend X.buf (adv X.buf q) : Nat) tp3) (C := [(X.self, shObj X.sd), (X.sd, sdDict X (.str ⟨#[32]⟩ ts) ⟨#[]⟩ tt ln tl), (Y.L, rtFrame X.self Y false es te (some (h₀, k₀, (.str ⟨#[35]⟩ tk))))]) h2 h3 b3 rfl
   have b3' : Beh (keysT X Y) s2 s3 := Beh.widen b3 (by intro z hz; simp only [List.mem_cons, List.not_mem_nil, or_false] at hz ⊢; rcases hz with h | h <;> simp [h])
   clear b3; have b3 := b3'
   refine sn_again H3 48 25506856904605178547222905988385392951044569689963028807877 [(true, true)] [0,1,2,3,4] (fun _ => [ioObj X.ioD, ioDict X.Hi X.Ki X.buf X.tb X.nl (lend X.buf (adv X.buf q) : Nat) tp3 X.epi, shObj X.sd, sdDict X (.str ⟨#[32]⟩ ts) ⟨#[]⟩ tt (ln + 1) (s3.toks + 2), rtFrame X.self Y false es te (some (h₀, k₀, (.str ⟨#[35]⟩ tk)))]) (fun _ => gLoop Y.L rt x) ?_ ?_ (by decide) ?_ ?_
   · exact dsC rfl dsN
   · kernel_rfl
   · cases a <;> (intro B4; kernel_rfl)
   · exact fun B4 s4 p4 _ h4 b4 => K s4 p4 _ _ _ _ _ _ _ _ _ h4 (Beh.trans b1 (Beh.trans b2 (Beh.trans b3 b4 fun _ z => z) fun _ z => z) fun _ z => z)
theorem t_a_cm_t (H : HpW (W3 w a b c) s.heap (lT X Y q tp (.str ⟨#[97]⟩ ts) ⟨⟨t0 :: tr⟩⟩ tt ln tl qd es te (some (h₀, k₀, v₀)))) (hnl : X.nl = .str ⟨#[10]⟩ tn) (hf : X.buf.length ≤ 1000) (hq : q ≤ X.buf.length) (hc : nxt X.buf q = ⟨#[35]⟩) (d28 : (hasS X.cm ⟨#[35]⟩) = true) (d31 : (fits (⟨⟨t0 :: tr⟩⟩ : Str).length) = true) (K : Brk (W3 w a b c) R X Y s (lend X.buf (adv X.buf q)) (some ⟨#[32]⟩) ⟨⟨t0 :: tr⟩⟩ qd es) :
   wpCode (model prg (W3 w a b c)) (gLoop Y.L rt x) R p s := by
 refine turn_start H hf hq hc fun B s1 tk tp1 H1 b1 => ?_
 refine sn_call H1 294 505038735784591560411394466869213823215592461709115578299636622666728762130830788297138278701368010759128745570476343641627534678758567000284794303614997993920570727960856051393834582800308483271757863199947540613411791536903933167922280285913088964145342583304044901649843379109209307800825184837242457665361734392784845274293482697673500152593404229 [(false, false), (false, false), (false, false), (false, false), (false, false), (true, true), (true, true), (false, false), (hasS X.cm ⟨#[35]⟩, true)] [0,1,2,3,4] (fun _ => [ioObj X.ioD, ioDict X.Hi X.Ki X.buf X.tb X.nl (adv X.buf q : Nat) tp1 X.epi, shObj X.sd, sdDict X (.str ⟨#[97]⟩ ts) ⟨⟨t0 :: tr⟩⟩ tt ln tl, rtFrame X.self Y qd es te (some (h₀, k₀, (.str ⟨#[35]⟩ tk)))]) (fun _ => gLine X.io (s4Of Y.L rt x ⟨671,20,671,44⟩)) true ?_ ?_ (by decide) ?_ ?_
 · exact dsC rfl (dsC rfl (dsC rfl (dsC rfl (dsC rfl (dsC rfl (dsC rfl (dsC rfl (dsC d28 dsN))))))))
 · kernel_rfl
 · cases a <;> (intro B2; kernel_rfl)
 · intro B2 s2 p2 hB h2 b2
   refine wpCode_mono (fun r s3 hr => ?_) (line_spec (Hp.part (A := lIo X (adv X.buf q : Nat) tp1) (C := [(X.self, shObj X.sd), (X.sd, sdDict X (.str ⟨#[97]⟩ ts) ⟨⟨t0 :: tr⟩⟩ tt ln tl), (Y.L, rtFrame X.self Y qd es te (some (h₀, k₀, (.str ⟨#[35]⟩ tk))))]) h2) hnl hf (adv_le hq) (adv_pos hc))
   obtain ⟨v, tv, tp3, e, h3, b3⟩ := hr
   subst e
   have H3 := Hp.join (A := lIo X (adv X.buf q : Nat) tp1) (A' := lIo X (lend X.buf (adv X.buf q) : Nat) tp3) (C := [(X.self, shObj X.sd), (X.sd, sdDict X (.str ⟨#[97]⟩ ts) ⟨⟨t0 :: tr⟩⟩ tt ln tl), (Y.L, rtFrame X.self Y qd es te (some (h₀, k₀, (.str ⟨#[35]⟩ tk))))]) h2 h3 b3 rfl
   have b3' : Beh (keysT X Y) s2 s3 := Beh.widen b3 (by intro z hz; simp only [List.mem_cons, List.not_mem_nil, or_false] at hz ⊢; rcases hz with h | h <;> simp [h])
   clear b3; have b3 := b3'
   refine sn_ok H3 120 37656128171975806399772854060601481905681081911401744461586664874340809432344532705365784230070103638263543698074349323456516411909663837445423301 [(true, true), (fits (⟨⟨t0 :: tr⟩⟩ : Str).length, true)] [0,1,2,3,4] (fun _ => [ioObj X.ioD, ioDict X.Hi X.Ki X.buf X.tb X.nl (lend X.buf (adv X.buf q) : Nat) tp3 X.epi, shObj X.sd, sdDict X (.str ⟨#[32]⟩ (s3.toks + 6)) ⟨⟨t0 :: tr⟩⟩ tt (ln + 1) (s3.toks + 2), rtFrame X.self Y qd es te (some (h₀, k₀, (.str ⟨#[35]⟩ tk)))]) (fun _ => .next) ?_ ?_ (by decide) ?_ ?_
   · exact dsC rfl (dsC d31 dsN)
   · kernel_rfl
   · cases a <;> (intro B4; kernel_rfl)
   · exact fun B4 s4 _ h4 b4 => K s4 tp3 (s3.toks + 6) _ _ _ _ _ _ _ h4 (Beh.trans b1 (Beh.trans b2 (Beh.trans b3 b4 fun _ z => z) fun _ z => z) fun _ z => z)
theorem t_a_cm_q (H : HpW (W3 w a b c) s.heap (lT X Y q tp (.str ⟨#[97]⟩ ts) ⟨#[]⟩ tt ln tl true es te (some (h₀, k₀, v₀)))) (hnl : X.nl = .str ⟨#[10]⟩ tn) (hf : X.buf.length ≤ 1000) (hq : q ≤ X.buf.length) (hc : nxt X.buf q = ⟨#[35]⟩) (d28 : (hasS X.cm ⟨#[35]⟩) = true) (K : Brk (W3 w a b c) R X Y s (lend X.buf (adv X.buf q)) (some ⟨#[32]⟩) ⟨#[]⟩ true es) :
   wpCode (model prg (W3 w a b c)) (gLoop Y.L rt x) R p s := by
 refine turn_start H hf hq hc fun B s1 tk tp1 H1 b1 => ?_
 refine sn_call H1 294 505038735784591560411394466869213823215592461709115578299636622666728762130830788297138278701368010759128745570476343641627534678758567000284794303614997993920570727960856051393834582800308483271757863199947540613411791536903933167922280285913088964145342583304044901649843379109209307800825184837242457665361734392784845274293482697673500152593404229 [(false, false), (false, false), (false, false), (false, false), (false, false), (true, true), (true, true), (false, false), (hasS X.cm ⟨#[35]⟩, true)] [0,1,2,3,4] (fun _ => [ioObj X.ioD, ioDict X.Hi X.Ki X.buf X.tb X.nl (adv X.buf q : Nat) tp1 X.epi, shObj X.sd, sdDict X (.str ⟨#[97]⟩ ts) ⟨#[]⟩ tt ln tl, rtFrame X.self Y true es te (some (h₀, k₀, (.str ⟨#[35]⟩ tk)))]) (fun _ => gLine X.io (s4Of Y.L rt x ⟨671,20,671,44⟩)) true ?_ ?_ (by decide) ?_ ?_
 · exact dsC rfl (dsC rfl (dsC rfl (dsC rfl (dsC rfl (dsC rfl (dsC rfl (dsC rfl (dsC d28 dsN))))))))
 · kernel_rfl
 · cases a <;> (intro B2; kernel_rfl)
 · intro B2 s2 p2 hB h2 b2
   refine wpCode_mono (fun r s3 hr => ?_) (line_spec (Hp.part (A := lIo X (adv X.buf q : Nat) tp1) (C := [(X.self, shObj X.sd), (X.sd, sdDict X (.str ⟨#[97]⟩ ts) ⟨#[]⟩ tt ln tl), (Y.L, rtFrame X.self Y true es te (some (h₀, k₀, (.str ⟨#[35]⟩ tk))))]) h2) hnl hf (adv_le hq) (adv_pos hc))
   obtain ⟨v, tv, tp3, e, h3, b3⟩ := hr
   subst e
   have H3 := Hp.join (A := lIo X (adv X.buf q : Nat) tp1) (A' := lIo X (lend X.buf (adv X.buf q) : Nat) tp3) (C := [(X.self, shObj X.sd), (X.sd, sdDict X (.str ⟨#[97]⟩ ts) ⟨#[]⟩ tt ln tl), (Y.L, rtFrame X.self Y true es te (some (h₀, k₀, (.str ⟨#[35]⟩ tk))))]) h2 h3 b3 rfl
   have b3' : Beh (keysT X Y) s2 s3 := Beh.widen b3 (by intro z hz; simp only [List.mem_cons, List.not_mem_nil, or_false] at hz ⊢; rcases hz with h | h <;> simp [h])
   clear b3; have b3 := b3'
   refine sn_ok H3 143 19564266127430236278078905108579787114766852709004887216491983982255873612566074680446090425587198319488604991882313055387771991079497922563265357784899313868609120882393285 [(true, true), (true, true)] [0,1,2,3,4] (fun _ => [ioObj X.ioD, ioDict X.Hi X.Ki X.buf X.tb X.nl (lend X.buf (adv X.buf q) : Nat) tp3 X.epi, shObj X.sd, sdDict X (.str ⟨#[32]⟩ (s3.toks + 6)) ⟨#[]⟩ tt (ln + 1) (s3.toks + 2), rtFrame X.self Y true es te (some (h₀, k₀, (.str ⟨#[35]⟩ tk)))]) (fun _ => .next) ?_ ?_ (by decide) ?_ ?_
   · exact dsC rfl (dsC rfl dsN)
   · kernel_rfl
   · cases a <;> (intro B4; kernel_rfl)
   · exact fun B4 s4 _ h4 b4 => K s4 tp3 (s3.toks + 6) _ _ _ _ _ _ _ h4 (Beh.trans b1 (Beh.trans b2 (Beh.trans b3 b4 fun _ z => z) fun _ z => z) fun _ z => z)
end
end Mine
end
section
namespace Mine
open PySem PySem.W
inductive Md where
 | sp
 | a (t : List Nat) (qd : Bool)
 | q (t : List Nat) (qd : Bool)
 | d (t : List Nat) (qd : Bool)
 | b (t : List Nat) (qd : Bool)
inductive Lo where
 | brk (st : Bool) (t : List Nat) (qd : Bool) (rest : List Nat)
 | err
 | bad
noncomputable def isWs (k : Nat) : Bool := k == 10 || k == 32 || k == 9 || k == 13
noncomputable def pastLine (r : List Nat) : List Nat := r.drop (skipTo 10 r)
noncomputable def turnSp (cm : Bool) (k : Nat) (r : List Nat) : Sum (Md × List Nat) Lo :=
 if isWs k then .inl (.sp, r) else if k == 35 && cm then .inl (.sp, pastLine r) else if k == 92 || k == 34 then .inr .bad else if k == 39 then .inl (.q [] false, r) else .inl (.a [k] false, r)
noncomputable def turnA (cm : Bool) (t : List Nat) (qd : Bool) (k : Nat) (r : List Nat) : Sum (Md × List Nat) Lo :=
 if isWs k then (if t.isEmpty && !qd then .inr .bad else .inr (.brk true t qd r)) else if k == 35 && cm then (if t.isEmpty && !qd then .inr .bad else .inr (.brk true t qd (pastLine r))) else if k == 92 then .inr .bad
 else if k == 39 then .inl (.q t qd, r) else if k == 34 then .inl (.d t qd, r) else .inl (.a (t ++ [k]) qd, r)
noncomputable def turnF (cm : Bool) : Md → List Nat → Sum (Md × List Nat) Lo
 | .sp, [] => .inr (.brk false [] false [])
 | .sp, k :: r => turnSp cm k r
 | .a t qd, [] => .inr (.brk false t qd [])
 | .a t qd, k :: r => turnA cm t qd k r
 | .q t qd, [] => .inr .err
 | .q t qd, k :: r => if k == 39 then .inl (.a t true, r) else .inl (.q (t ++ [k]) true, r)
 | .d t qd, [] => .inr .bad
 | .d t qd, k :: r => if k == 34 then .inl (.a t true, r) else if k == 92 then .inl (.b t true, r) else if t.isEmpty && k == 10 then .inr .bad else .inl (.d (t ++ [k]) true, r)
 | .b t qd, [] => .inr .bad
 | .b t qd, k :: r => if (k == 92 || k == 34) && !t.isEmpty then .inl (.d (t ++ [k]) qd, r) else .inr .bad
noncomputable def lexF (cm : Bool) : Nat → Md → List Nat → Lo
 | 0, _, _ => .bad
 | n + 1, md, l => match turnF cm md l with
   | .inl x => lexF cm n x.1 x.2
   | .inr o => o
noncomputable def stM : Md → Str
 | .sp => ⟨#[32]⟩
 | .a _ _ => ⟨#[97]⟩
 | .q _ _ => ⟨#[39]⟩
 | .d _ _ => ⟨#[34]⟩
 | .b _ _ => ⟨#[92]⟩
noncomputable def tokM : Md → List Nat
 | .sp => []
 | .a t _ => t
 | .q t _ => t
 | .d t _ => t
 | .b t _ => t
noncomputable def qdM : Md → Bool
 | .sp => false
 | .a _ q => q
 | .q _ q => q
 | .d _ q => q
 | .b _ q => q
noncomputable def isB : Md → Bool
 | .b _ _ => true
 | _ => false
noncomputable def isSp : Md → Bool
 | .sp => true
 | _ => false
noncomputable def cmS : Bool → Str
 | true => ⟨#[35]⟩
 | false => ⟨#[]⟩
theorem hasS_one (x : Str) (c : Nat) : hasS x ⟨#[c]⟩ = decide (c ∈ x.cps.toList) := StrLaws.found_one x c
theorem hasS_cm (cm : Bool) (k : Nat) : hasS (cmS cm) ⟨#[k]⟩ = (k == 35 && cm) := by
 rw [hasS_one]
 cases cm with
 | true => show decide (k ∈ [35]) = (k == 35 && true); rw [Bool.eq_iff_iff]; simp
 | false => show decide (k ∈ []) = (k == 35 && false); rw [Bool.eq_iff_iff]; simp
theorem hasS_ws (k : Nat) : hasS sWS ⟨#[k]⟩ = isWs k := by
 rw [hasS_one, Bool.eq_iff_iff]
 simp [isWs]
 omega
theorem hasS_es (k : Nat) : hasS sES ⟨#[k]⟩ = (k == 92) := by
 rw [hasS_one, Bool.eq_iff_iff]; simp
theorem hasS_qu (k : Nat) : hasS sQU ⟨#[k]⟩ = (k == 39 || k == 34) := by
 rw [hasS_one, Bool.eq_iff_iff]; simp
theorem hasS_em (k : Nat) : hasS ⟨#[]⟩ ⟨#[k]⟩ = false := by
 rw [hasS_one]; simp
theorem app_tok (l : List Nat) (k : Nat) : ((⟨⟨l⟩⟩ : Str) ++ (⟨#[k]⟩ : Str)) = ⟨⟨l ++ [k]⟩⟩ := by
 show (⟨(⟨l⟩ : Array Nat) ++ #[k]⟩ : Str) = _
 congr 1
 exact Array.ext' (by simp)
theorem fits_tok {l : List Nat} (h : l.length ≤ 1001) : fits (⟨⟨l⟩⟩ : Str).length = true := Nat.ble_eq_true_of_le (Nat.le_trans (show l.length ≤ 1001 from h) (by decide))
theorem nxt_of {buf : Str} {q k : Nat} {r : List Nat} (h : buf.cps.toList.drop q = k :: r) : nxt buf q = ⟨#[k]⟩ := by
 unfold nxt; rw [h]; rfl
theorem nxt_nil {buf : Str} {q : Nat} (h : buf.cps.toList.drop q = []) : nxt buf q = ⟨#[]⟩ := by
 unfold nxt; rw [h]; rfl
theorem drop_len {buf : Str} {q : Nat} {l : List Nat} (h : buf.cps.toList.drop q = l) (hq : q ≤ buf.length) : q = buf.length - l.length := by
 have := congrArg List.length h
 rw [List.length_drop] at this
 have e : buf.length = buf.cps.toList.length := by simp [Str.length]
 omega
theorem drop_len' {buf : Str} {q : Nat} {l : List Nat} (h : buf.cps.toList.drop q = l) : buf.length - q = l.length := by
 have := congrArg List.length h
 rw [List.length_drop] at this
 have e : buf.length = buf.cps.toList.length := by simp [Str.length]
 omega
theorem adv_of {buf : Str} {q k : Nat} {r : List Nat} (h : buf.cps.toList.drop q = k :: r) (hq : q ≤ buf.length) : adv buf q = buf.length - r.length ∧ adv buf q = q + 1 ∧ buf.cps.toList.drop (adv buf q) = r := by
 have h1 := drop_len h hq
 have h2 := nxt_lt (nxt_of h)
 have h3 : adv buf q = q + 1 := by unfold adv; omega
 refine ⟨?_, h3, ?_⟩
 · have h4 := drop_len' h
   rw [h3]; simp only [List.length_cons] at h4; omega
 · rw [h3, ← List.drop_drop, h]; rfl
theorem adv_nil {buf : Str} {q : Nat} (h : buf.cps.toList.drop q = []) (hq : q ≤ buf.length) : adv buf q = buf.length := by
 have := drop_len h hq
 unfold adv
 simp at this
 omega
theorem lend_of {buf : Str} {q k : Nat} {r : List Nat} (h : buf.cps.toList.drop q = k :: r) (hq : q ≤ buf.length) : lend buf (adv buf q) = buf.length - (pastLine r).length := by
 obtain ⟨h1, h2, h3⟩ := adv_of h hq
 have h4 := nxt_lt (nxt_of h)
 unfold lend pastLine
 rw [h3, List.length_drop]
 have := drop_len h3 (by omega)
 have hs : skipTo 10 r ≤ r.length := by
   by_cases hm : 10 ∈ r
   · obtain ⟨_, _, _, _, h⟩ := firstAt_some (lo := 0) hm; exact h
   · rw [(firstAt_none (lo := 0) hm).2]; exact Nat.le_refl _
 have hr : r.length ≤ buf.length := by
   have := congrArg List.length h3
   rw [List.length_drop] at this
   have e : buf.length = buf.cps.toList.length := by simp [Str.length]
   omega
 omega
noncomputable def TurnK (w : World) (R : Result → Shared → Prop) (X : Lx) (Y : Rt) (rt : Fm) (x : S3) (s : Shared) (p : Pos) : Sum (Md × List Nat) Lo → Prop
 | .inl (md, l) => ∀ es, (isB md = true → es = sEQ) → Cont w R X Y rt x s (X.buf.length - l.length) (stM md) ⟨⟨tokM md⟩⟩ (qdM md) es
 | .inr (.brk true t qd l) => ∀ es, Brk w R X Y s (X.buf.length - l.length) (some ⟨#[32]⟩) ⟨⟨t⟩⟩ qd es
 | .inr (.brk false t qd l) => ∀ es, Brk w R X Y s (X.buf.length - l.length) none ⟨⟨t⟩⟩ qd es
 | .inr .err => wpCode (model prg w) (gLoop Y.L rt x) R p s
 | .inr .bad => False
section
variable {w : World} {a b c : Bool} {s : Shared} {X : Lx} {Y : Rt} {q tp ts tt tl te tn : Nat} {es : Str} {ln : Int} {rt : Fm} {x : S3} {p : Pos} {R : Result → Shared → Prop} {nc : NcT} {cm : Bool}
theorem turn_sp (H : HpW (W3 w a b c) s.heap (lT X Y q tp (.str ⟨#[32]⟩ ts) ⟨#[]⟩ tt ln tl false es te nc)) (hcm : X.cm = cmS cm) (hnl : X.nl = .str ⟨#[10]⟩ tn) (hf : X.buf.length ≤ 1000) (hq : q ≤ X.buf.length)
   (K : TurnK (W3 w a b c) R X Y rt x s p (turnF cm .sp (X.buf.cps.toList.drop q))) : wpCode (model prg (W3 w a b c)) (gLoop Y.L rt x) R p s := by
 cases hd : X.buf.cps.toList.drop q with
 | nil =>
   rw [hd] at K
   have K' : Brk (W3 w a b c) R X Y s (adv X.buf q) none ⟨#[]⟩ false es := by rw [adv_nil hd hq]; exact K es
   cases nc with
   | none => exact t_sp_eof_A H hf hq (nxt_nil hd) K'
   | some z => exact t_sp_eof_B H hf hq (nxt_nil hd) K'
 | cons k r =>
   rw [hd] at K
   obtain ⟨e1, e2, e3⟩ := adv_of hd hq
   have hx := nxt_of hd
   have K0 : TurnK (W3 w a b c) R X Y rt x s p (turnSp cm k r) := K
   clear K
   have K := K0
   clear K0
   unfold turnSp at K
   by_cases h1 : isWs k = true
   · rw [if_pos h1] at K
     have K' : Cont (W3 w a b c) R X Y rt x s (adv X.buf q) ⟨#[32]⟩ ⟨#[]⟩ false es := by rw [e1]; exact K es (fun h => nomatch h)
     by_cases h0 : k = 10
     · subst h0
       cases nc with
       | none => exact t_sp_nl_A H hf hq hx K'
       | some z => exact t_sp_nl_B H hf hq hx K'
     · cases nc with
       | none => exact t_sp_ws_A H hf hq hx (by simp [h0]) (by rw [hasS_ws]; exact h1) K'
       | some z => exact t_sp_ws_B H hf hq hx (by simp [h0]) (by rw [hasS_ws]; exact h1) K'
   · rw [if_neg h1] at K
     have h1' : isWs k = false := by simpa using h1
     have h10 : k ≠ 10 := fun e => by subst e; exact absurd h1' (by decide)
     by_cases h2 : (k == 35 && cm) = true
     · rw [if_pos h2] at K
       have hk : k = 35 := by simp at h2; exact h2.1
       subst hk
       have K' : Cont (W3 w a b c) R X Y rt x s (lend X.buf (adv X.buf q)) ⟨#[32]⟩ ⟨#[]⟩ false es := by rw [lend_of hd hq]; exact K es (fun h => nomatch h)
       have hc : hasS X.cm ⟨#[35]⟩ = true := by rw [hcm, hasS_cm]; exact h2
       cases nc with
       | none => exact t_sp_cm_A H hnl hf hq hx hc K'
       | some z => exact t_sp_cm_B H hnl hf hq hx hc K'
     · rw [if_neg h2] at K
       have hc : hasS X.cm ⟨#[k]⟩ = false := by rw [hcm, hasS_cm]; simpa using h2
       by_cases h3 : (k == 92 || k == 34) = true
       · rw [if_pos h3] at K; exact K.elim
       · rw [if_neg h3] at K
         have h92 : k ≠ 92 := fun e => h3 (by simp [e])
         have h34 : k ≠ 34 := fun e => h3 (by simp [e])
         by_cases h4 : (k == 39) = true
         · rw [if_pos h4] at K
           have hk : k = 39 := by simpa using h4
           subst hk
           have K' : Cont (W3 w a b c) R X Y rt x s (adv X.buf q) ⟨#[39]⟩ ⟨#[]⟩ false es := by rw [e1]; exact K es (fun h => nomatch h)
           cases nc with
           | none => exact t_sp_sq_A H hf hq hx hc K'
           | some z => exact t_sp_sq_B H hf hq hx hc K'
         · rw [if_neg h4] at K
           have h39 : k ≠ 39 := fun e => h4 (by simp [e])
           have K' : Cont (W3 w a b c) R X Y rt x s (adv X.buf q) ⟨#[97]⟩ ⟨#[k]⟩ false es := by rw [e1]; exact K es (fun h => nomatch h)
           by_cases h5 : hasS sWC ⟨#[k]⟩ = true
           · cases nc with
             | none => exact t_sp_wc_A H hf hq hx (by simp [h10]) (by rw [hasS_ws]; exact h1') hc (by rw [hasS_es]; simp [h92]) h5 K'
             | some z => exact t_sp_wc_B H hf hq hx (by simp [h10]) (by rw [hasS_ws]; exact h1') hc (by rw [hasS_es]; simp [h92]) h5 K'
           · have h5' : hasS sWC ⟨#[k]⟩ = false := by simpa using h5
             cases nc with
             | none => exact t_sp_ot_A H hf hq hx (by simp [h10]) (by rw [hasS_ws]; exact h1') hc (by rw [hasS_es]; simp [h92]) h5' (hasS_em k) (by rw [hasS_qu]; simp [h39, h34]) K'
             | some z => exact t_sp_ot_B H hf hq hx (by simp [h10]) (by rw [hasS_ws]; exact h1') hc (by rw [hasS_es]; simp [h92]) h5' (hasS_em k) (by rw [hasS_qu]; simp [h39, h34]) K'
theorem turn_a {t : List Nat} {qd : Bool} {nv : Int × Nat × Value} (H : HpW (W3 w a b c) s.heap (lT X Y q tp (.str ⟨#[97]⟩ ts) ⟨⟨t⟩⟩ tt ln tl qd es te (some nv))) (hcm : X.cm = cmS cm) (hnl : X.nl = .str ⟨#[10]⟩ tn) (hf : X.buf.length ≤ 1000) (hq : q ≤ X.buf.length) (ht : t.length ≤ q)
   (K : TurnK (W3 w a b c) R X Y rt x s p (turnF cm (.a t qd) (X.buf.cps.toList.drop q))) : wpCode (model prg (W3 w a b c)) (gLoop Y.L rt x) R p s := by
 obtain ⟨h₀, k₀, v₀⟩ := nv
 cases hd : X.buf.cps.toList.drop q with
 | nil =>
   rw [hd] at K
   have K' : Brk (W3 w a b c) R X Y s (adv X.buf q) none ⟨⟨t⟩⟩ qd es := by rw [adv_nil hd hq]; exact K es
   exact t_a_eof H hf hq (nxt_nil hd) K'
 | cons k r =>
   rw [hd] at K
   obtain ⟨e1, e2, e3⟩ := adv_of hd hq
   have hx := nxt_of hd
   have K0 : TurnK (W3 w a b c) R X Y rt x s p (turnA cm t qd k r) := K
   clear K
   have K := K0
   clear K0
   unfold turnA at K
   by_cases h1 : isWs k = true
   · rw [if_pos h1] at K
     by_cases h0 : k = 10
     · subst h0
       cases t with
       | nil =>
         cases qd with
         | false => exact K.elim
         | true =>
           have K' : Brk (W3 w a b c) R X Y s (adv X.buf q) (some ⟨#[32]⟩) ⟨#[]⟩ true es := by rw [e1]; exact K es
           exact t_a_nl_q H hf hq hx K'
       | cons t0 tr =>
         have K' : Brk (W3 w a b c) R X Y s (adv X.buf q) (some ⟨#[32]⟩) ⟨⟨t0 :: tr⟩⟩ qd es := by rw [e1]; exact K es
         exact t_a_nl_t H hf hq hx (fits_tok (by omega)) K'
     · cases t with
       | nil =>
         cases qd with
         | false => exact K.elim
         | true =>
           have K' : Brk (W3 w a b c) R X Y s (adv X.buf q) (some ⟨#[32]⟩) ⟨#[]⟩ true es := by rw [e1]; exact K es
           exact t_a_ws_q H hf hq hx (by simp [h0]) (by rw [hasS_ws]; exact h1) K'
       | cons t0 tr =>
         have K' : Brk (W3 w a b c) R X Y s (adv X.buf q) (some ⟨#[32]⟩) ⟨⟨t0 :: tr⟩⟩ qd es := by rw [e1]; exact K es
         exact t_a_ws_t H hf hq hx (by simp [h0]) (by rw [hasS_ws]; exact h1) (fits_tok (by omega)) K'
   · rw [if_neg h1] at K
     have h1' : isWs k = false := by simpa using h1
     have h10 : k ≠ 10 := fun e => by subst e; exact absurd h1' (by decide)
     by_cases h2 : (k == 35 && cm) = true
     · rw [if_pos h2] at K
       have hk : k = 35 := by simp at h2; exact h2.1
       subst hk
       have hc : hasS X.cm ⟨#[35]⟩ = true := by rw [hcm, hasS_cm]; exact h2
       cases t with
       | nil =>
         cases qd with
         | false => exact K.elim
         | true =>
           have K' : Brk (W3 w a b c) R X Y s (lend X.buf (adv X.buf q)) (some ⟨#[32]⟩) ⟨#[]⟩ true es := by rw [lend_of hd hq]; exact K es
           exact t_a_cm_q H hnl hf hq hx hc K'
       | cons t0 tr =>
         have K' : Brk (W3 w a b c) R X Y s (lend X.buf (adv X.buf q)) (some ⟨#[32]⟩) ⟨⟨t0 :: tr⟩⟩ qd es := by rw [lend_of hd hq]; exact K es
         exact t_a_cm_t H hnl hf hq hx hc (fits_tok (by omega)) K'
     · rw [if_neg h2] at K
       have hc : hasS X.cm ⟨#[k]⟩ = false := by rw [hcm, hasS_cm]; simpa using h2
       by_cases h3 : (k == 92) = true
       · rw [if_pos h3] at K; exact K.elim
       · rw [if_neg h3] at K
         have h92 : k ≠ 92 := fun e => h3 (by simp [e])
         by_cases h4 : (k == 39) = true
         · rw [if_pos h4] at K
           have hk : k = 39 := by simpa using h4
           subst hk
           have K' : Cont (W3 w a b c) R X Y rt x s (adv X.buf q) ⟨#[39]⟩ ⟨⟨t⟩⟩ qd es := by rw [e1]; exact K es (fun h => nomatch h)
           exact t_a_sq H hf hq hx hc K'
         · rw [if_neg h4] at K
           have h39 : k ≠ 39 := fun e => h4 (by simp [e])
           by_cases h5 : (k == 34) = true
           · rw [if_pos h5] at K
             have hk : k = 34 := by simpa using h5
             subst hk
             have K' : Cont (W3 w a b c) R X Y rt x s (adv X.buf q) ⟨#[34]⟩ ⟨⟨t⟩⟩ qd es := by rw [e1]; exact K es (fun h => nomatch h)
             exact t_a_dq H hf hq hx hc K'
           · rw [if_neg h5] at K
             have h34 : k ≠ 34 := fun e => h5 (by simp [e])
             have K' : Cont (W3 w a b c) R X Y rt x s (adv X.buf q) ⟨#[97]⟩ ⟨⟨t ++ [k]⟩⟩ qd es := by rw [e1]; exact K es (fun h => nomatch h)
             have d0 : ([k] == ([10] : List Nat)) = false := by simp [h10]
             have d1 : hasS sWS ⟨#[k]⟩ = false := by rw [hasS_ws]; exact h1'
             have d2 : hasS sQU ⟨#[k]⟩ = false := by rw [hasS_qu]; simp [h39, h34]
             have d3 : hasS sES ⟨#[k]⟩ = false := by rw [hasS_es]; simp [h92]
             cases t with
             | nil =>
               by_cases h6 : hasS sWC ⟨#[k]⟩ = true
               · exact t_a_wc_q H hf hq hx d0 d1 hc d2 d3 h6 K'
               · exact t_a_ot_q H hf hq hx d0 d1 hc d2 d3 (by simpa using h6) d2 (hasS_em k) K'
             | cons t0 tr =>
               rw [← app_tok] at K'
               have d4 : fits ((⟨⟨t0 :: tr⟩⟩ : Str) ++ (⟨#[k]⟩ : Str)).length = true := by rw [app_tok]; exact fits_tok (by simp at ht ⊢; omega)
               by_cases h6 : hasS sWC ⟨#[k]⟩ = true
               · exact t_a_wc_t H hf hq hx d0 d1 hc d2 d3 h6 d4 K'
               · exact t_a_ot_t H hf hq hx d0 d1 hc d2 d3 (by simpa using h6) d2 (hasS_em k) d4 K'
theorem turn_q {t : List Nat} {qd : Bool} {nv : Int × Nat × Value} (H : HpW (W3 w a b c) s.heap (lT X Y q tp (.str ⟨#[39]⟩ ts) ⟨⟨t⟩⟩ tt ln tl qd es te (some nv))) (hf : X.buf.length ≤ 1000) (hq : q ≤ X.buf.length) (ht : t.length ≤ q)
   (K : TurnK (W3 w a b c) R X Y rt x s p (turnF cm (.q t qd) (X.buf.cps.toList.drop q))) : wpCode (model prg (W3 w a b c)) (gLoop Y.L rt x) R p s := by
 obtain ⟨h₀, k₀, v₀⟩ := nv
 cases hd : X.buf.cps.toList.drop q with
 | nil => rw [hd] at K; exact K
 | cons k r =>
   rw [hd] at K
   obtain ⟨e1, e2, e3⟩ := adv_of hd hq
   have hx := nxt_of hd
   have K0 : TurnK (W3 w a b c) R X Y rt x s p (if k == 39 then .inl (.a t true, r) else .inl (.q (t ++ [k]) true, r)) := K
   clear K
   have K := K0
   clear K0
   by_cases h1 : (k == 39) = true
   · rw [if_pos h1] at K
     have hk : k = 39 := by simpa using h1
     subst hk
     have K' : Cont (W3 w a b c) R X Y rt x s (adv X.buf q) ⟨#[97]⟩ ⟨⟨t⟩⟩ true es := by rw [e1]; exact K es (fun h => nomatch h)
     exact t_q_cl H hf hq hx K'
   · rw [if_neg h1] at K
     have h39 : k ≠ 39 := fun e => h1 (by simp [e])
     have K' : Cont (W3 w a b c) R X Y rt x s (adv X.buf q) ⟨#[39]⟩ ⟨⟨t ++ [k]⟩⟩ true es := by rw [e1]; exact K es (fun h => nomatch h)
     cases t with
     | nil =>
       by_cases h10 : k = 10
       · subst h10; exact t_q_nl_e H hf hq hx K'
       · by_cases h92 : k = 92
         · subst h92; exact t_q_bs_e H hf hq hx K'
         · exact t_q_ot_e H hf hq hx (by simp [h10]) (by simp [h39]) (by rw [hasS_es]; simp [h92]) K'
     | cons t0 tr =>
       rw [← app_tok] at K'
       have d4 : fits ((⟨⟨t0 :: tr⟩⟩ : Str) ++ (⟨#[k]⟩ : Str)).length = true := by rw [app_tok]; exact fits_tok (by simp at ht ⊢; omega)
       by_cases h10 : k = 10
       · subst h10; exact t_q_nl_t H hf hq hx d4 K'
       · by_cases h92 : k = 92
         · subst h92; exact t_q_bs_t H hf hq hx d4 K'
         · exact t_q_ot_t H hf hq hx (by simp [h10]) (by simp [h39]) (by rw [hasS_es]; simp [h92]) d4 K'
theorem turn_d {t : List Nat} {qd : Bool} {nv : Int × Nat × Value} (H : HpW (W3 w a b c) s.heap (lT X Y q tp (.str ⟨#[34]⟩ ts) ⟨⟨t⟩⟩ tt ln tl qd es te (some nv))) (hf : X.buf.length ≤ 1000) (hq : q ≤ X.buf.length) (ht : t.length ≤ q)
   (K : TurnK (W3 w a b c) R X Y rt x s p (turnF cm (.d t qd) (X.buf.cps.toList.drop q))) : wpCode (model prg (W3 w a b c)) (gLoop Y.L rt x) R p s := by
 obtain ⟨h₀, k₀, v₀⟩ := nv
 cases hd : X.buf.cps.toList.drop q with
 | nil => rw [hd] at K; exact K.elim
 | cons k r =>
   rw [hd] at K
   obtain ⟨e1, e2, e3⟩ := adv_of hd hq
   have hx := nxt_of hd
   have K0 : TurnK (W3 w a b c) R X Y rt x s p (if k == 34 then .inl (.a t true, r) else if k == 92 then .inl (.b t true, r) else if t.isEmpty && k == 10 then .inr .bad else .inl (.d (t ++ [k]) true, r)) := K
   clear K
   have K := K0
   clear K0
   by_cases h1 : (k == 34) = true
   · rw [if_pos h1] at K
     have hk : k = 34 := by simpa using h1
     subst hk
     have K' : Cont (W3 w a b c) R X Y rt x s (adv X.buf q) ⟨#[97]⟩ ⟨⟨t⟩⟩ true es := by rw [e1]; exact K es (fun h => nomatch h)
     exact t_d_cl H hf hq hx K'
   · rw [if_neg h1] at K
     have h34 : k ≠ 34 := fun e => h1 (by simp [e])
     by_cases h2 : (k == 92) = true
     · rw [if_pos h2] at K
       have hk : k = 92 := by simpa using h2
       subst hk
       have K' : Cont (W3 w a b c) R X Y rt x s (adv X.buf q) ⟨#[92]⟩ ⟨⟨t⟩⟩ true sEQ := by rw [e1]; exact K sEQ (fun _ => rfl)
       exact t_d_bs H hf hq hx K'
     · rw [if_neg h2] at K
       have h92 : k ≠ 92 := fun e => h2 (by simp [e])
       have d3 : hasS sES ⟨#[k]⟩ = false := by rw [hasS_es]; simp [h92]
       cases t with
       | nil =>
         by_cases h10 : k = 10
         · subst h10; exact K.elim
         · rw [if_neg (by simp [h10])] at K
           have K' : Cont (W3 w a b c) R X Y rt x s (adv X.buf q) ⟨#[34]⟩ ⟨#[k]⟩ true es := by rw [e1]; exact K es (fun h => nomatch h)
           exact t_d_ot_e H hf hq hx (by simp [h10]) (by simp [h34]) d3 K'
       | cons t0 tr =>
         have K' : Cont (W3 w a b c) R X Y rt x s (adv X.buf q) ⟨#[34]⟩ ⟨⟨(t0 :: tr) ++ [k]⟩⟩ true es := by rw [e1]; exact K es (fun h => nomatch h)
         rw [← app_tok] at K'
         have d4 : fits ((⟨⟨t0 :: tr⟩⟩ : Str) ++ (⟨#[k]⟩ : Str)).length = true := by rw [app_tok]; exact fits_tok (by simp at ht ⊢; omega)
         by_cases h10 : k = 10
         · subst h10; exact t_d_nl_t H hf hq hx d4 K'
         · exact t_d_ot_t H hf hq hx (by simp [h10]) (by simp [h34]) d3 d4 K'
theorem turn_b {t : List Nat} {qd : Bool} {nv : Int × Nat × Value} (H : HpW (W3 w a b c) s.heap (lT X Y q tp (.str ⟨#[92]⟩ ts) ⟨⟨t⟩⟩ tt ln tl qd sEQ te (some nv))) (hf : X.buf.length ≤ 1000) (hq : q ≤ X.buf.length) (ht : t.length ≤ q)
   (K : TurnK (W3 w a b c) R X Y rt x s p (turnF cm (.b t qd) (X.buf.cps.toList.drop q))) : wpCode (model prg (W3 w a b c)) (gLoop Y.L rt x) R p s := by
 obtain ⟨h₀, k₀, v₀⟩ := nv
 cases hd : X.buf.cps.toList.drop q with
 | nil => rw [hd] at K; exact K.elim
 | cons k r =>
   rw [hd] at K
   obtain ⟨e1, e2, e3⟩ := adv_of hd hq
   have hx := nxt_of hd
   have K0 : TurnK (W3 w a b c) R X Y rt x s p (if (k == 92 || k == 34) && !t.isEmpty then .inl (.d (t ++ [k]) qd, r) else .inr .bad) := K
   clear K
   have K := K0
   clear K0
   by_cases h1 : ((k == 92 || k == 34) && !t.isEmpty) = true
   · rw [if_pos h1] at K
     have K' : Cont (W3 w a b c) R X Y rt x s (adv X.buf q) ⟨#[34]⟩ ⟨⟨t ++ [k]⟩⟩ qd sEQ := by rw [e1]; exact K sEQ (fun h => nomatch h)
     cases t with
     | nil => simp at h1
     | cons t0 tr =>
       rw [← app_tok] at K'
       have d4 : fits ((⟨⟨t0 :: tr⟩⟩ : Str) ++ (⟨#[k]⟩ : Str)).length = true := by rw [app_tok]; exact fits_tok (by simp at ht ⊢; omega)
       have hk : k = 92 ∨ k = 34 := by simpa using h1
       rcases hk with rfl | rfl
       · exact t_b_bs_t H hf hq hx d4 K'
       · exact t_b_dq_t H hf hq hx d4 K'
   · rw [if_neg h1] at K; exact K.elim
theorem turn_all {md : Md} (H : HpW (W3 w a b c) s.heap (lT X Y q tp (.str (stM md) ts) ⟨⟨tokM md⟩⟩ tt ln tl (qdM md) es te nc)) (hB : isB md = true → es = sEQ) (hN : nc = none → isSp md = true) (hcm : X.cm = cmS cm) (hnl : X.nl = .str ⟨#[10]⟩ tn) (hf : X.buf.length ≤ 1000) (hq : q ≤ X.buf.length) (ht : (tokM md).length ≤ q)
   (K : TurnK (W3 w a b c) R X Y rt x s p (turnF cm md (X.buf.cps.toList.drop q))) : wpCode (model prg (W3 w a b c)) (gLoop Y.L rt x) R p s := by
 cases md with
 | sp => exact turn_sp H hcm hnl hf hq K
 | a t qd =>
   cases nc with
   | none => exact absurd (hN rfl) (by simp [isSp])
   | some z => exact turn_a H hcm hnl hf hq ht K
 | q t qd =>
   cases nc with
   | none => exact absurd (hN rfl) (by simp [isSp])
   | some z => exact turn_q H hf hq ht K
 | d t qd =>
   cases nc with
   | none => exact absurd (hN rfl) (by simp [isSp])
   | some z => exact turn_d H hf hq ht K
 | b t qd =>
   cases nc with
   | none => exact absurd (hN rfl) (by simp [isSp])
   | some z =>
     have e := hB rfl
     subst e
     exact turn_b H hf hq ht K
end
theorem skip_le (r : List Nat) : skipTo 10 r ≤ r.length := by
 by_cases hm : 10 ∈ r
 · obtain ⟨_, _, _, _, h⟩ := firstAt_some (lo := 0) hm; exact h
 · rw [(firstAt_none (lo := 0) hm).2]; exact Nat.le_refl _
noncomputable def Goes (md : Md) (l : List Nat) : Sum (Md × List Nat) Lo → Prop
 | .inl (md', l') => ∃ j, l' = l.drop j ∧ 1 ≤ j ∧ j ≤ l.length ∧ (tokM md').length ≤ (tokM md).length + 1
 | .inr _ => True
theorem goes_one (md md' : Md) (k : Nat) (r : List Nat) (h : (tokM md').length ≤ (tokM md).length + 1) : Goes md (k :: r) (.inl (md', r)) := ⟨1, rfl, Nat.le_refl _, by simp, h⟩
theorem goes_line (md md' : Md) (k : Nat) (r : List Nat) (h : (tokM md').length ≤ (tokM md).length + 1) : Goes md (k :: r) (.inl (md', pastLine r)) := by
 refine ⟨skipTo 10 r + 1, rfl, by omega, ?_, h⟩
 have := skip_le r
 simp; omega
theorem turn_goes (cm : Bool) (md : Md) (l : List Nat) : Goes md l (turnF cm md l) := by
 cases md with
 | sp =>
   cases l with
   | nil => trivial
   | cons k r =>
     show Goes .sp (k :: r) (turnSp cm k r)
     unfold turnSp
     repeat' split
     all_goals first | trivial | exact goes_one _ _ _ _ (by simp [tokM]) | exact goes_line _ _ _ _ (by simp [tokM])
 | a t qd =>
   cases l with
   | nil => trivial
   | cons k r =>
     show Goes (.a t qd) (k :: r) (turnA cm t qd k r)
     unfold turnA
     repeat' split
     all_goals first | trivial | exact goes_one _ _ _ _ (by simp [tokM])
 | q t qd =>
   cases l with
   | nil => trivial
   | cons k r =>
     show Goes (.q t qd) (k :: r) (if k == 39 then .inl (.a t true, r) else .inl (.q (t ++ [k]) true, r))
     repeat' split
     all_goals first | trivial | exact goes_one _ _ _ _ (by simp [tokM])
 | d t qd =>
   cases l with
   | nil => trivial
   | cons k r =>
     show Goes (.d t qd) (k :: r) (if k == 34 then .inl (.a t true, r) else if k == 92 then .inl (.b t true, r) else if t.isEmpty && k == 10 then .inr .bad else .inl (.d (t ++ [k]) true, r))
     repeat' split
     all_goals first | trivial | exact goes_one _ _ _ _ (by simp [tokM])
 | b t qd =>
   cases l with
   | nil => trivial
   | cons k r =>
     show Goes (.b t qd) (k :: r) (if (k == 92 || k == 34) && !t.isEmpty then .inl (.d (t ++ [k]) qd, r) else .inr .bad)
     repeat' split
     all_goals first | trivial | exact goes_one _ _ _ _ (by simp [tokM])
theorem err_only {cm : Bool} {md : Md} {l : List Nat} (h : turnF cm md l = .inr .err) : l = [] ∧ stM md = ⟨#[39]⟩ := by
 cases md with
 | q t qd =>
   cases l with
   | nil => exact ⟨rfl, rfl⟩
   | cons k r =>
     have h' : (if k == 39 then Sum.inl (Md.a t true, r) else .inl (.q (t ++ [k]) true, r)) = (.inr .err : Sum (Md × List Nat) Lo) := h
     split at h' <;> cases h'
 | sp =>
   cases l with
   | nil => cases h
   | cons k r =>
     have h' : turnSp cm k r = .inr .err := h
     unfold turnSp at h'
     repeat' (split at h')
     all_goals cases h'
 | a t qd =>
   cases l with
   | nil => cases h
   | cons k r =>
     have h' : turnA cm t qd k r = .inr .err := h
     unfold turnA at h'
     repeat' (split at h')
     all_goals cases h'
 | d t qd =>
   cases l with
   | nil => cases h
   | cons k r =>
     have h' : (if k == 34 then Sum.inl (Md.a t true, r) else if k == 92 then .inl (.b t true, r) else if t.isEmpty && k == 10 then .inr .bad else .inl (.d (t ++ [k]) true, r)) = (.inr .err : Sum (Md × List Nat) Lo) := h
     repeat' (split at h')
     all_goals cases h'
 | b t qd =>
   cases l with
   | nil => cases h
   | cons k r =>
     have h' : (if (k == 92 || k == 34) && !t.isEmpty then Sum.inl (Md.d (t ++ [k]) qd, r) else .inr .bad) = (.inr .err : Sum (Md × List Nat) Lo) := h
     split at h' <;> cases h'
noncomputable def LoK (w : World) (R : Result → Shared → Prop) (X : Lx) (Y : Rt) (rt : Fm) (x : S3) (s : Shared) : Lo → Prop
 | .brk true t qd l => ∀ es, Brk w R X Y s (X.buf.length - l.length) (some ⟨#[32]⟩) ⟨⟨t⟩⟩ qd es
 | .brk false t qd l => ∀ es, Brk w R X Y s (X.buf.length - l.length) none ⟨⟨t⟩⟩ qd es
 | .err => ∀ t qd es, Cont w R X Y rt x s X.buf.length ⟨#[39]⟩ ⟨⟨t⟩⟩ qd es
 | .bad => False
theorem Brk.behind {w : World} {R : Result → Shared → Prop} {X : Lx} {Y : Rt} {s s' : Shared} {q : Nat} {st : Option Str} {tok es : Str} {qd : Bool} (h : Brk w R X Y s q st tok qd es) (B : Beh (keysT X Y) s s') : Brk w R X Y s' q st tok qd es :=
 fun s'' tp ts tt ln tl te h' k v H B' => h s'' tp ts tt ln tl te h' k v H (Beh.trans B B' fun _ z => z)
section
variable {w : World} {a b c : Bool} {X : Lx} {Y : Rt} {tn : Nat} {rt : Fm} {x : S3} {R : Result → Shared → Prop} {cm : Bool} {s₀ : Shared}
theorem loop_spec (hcm : X.cm = cmS cm) (hnl : X.nl = .str ⟨#[10]⟩ tn) (hf : X.buf.length ≤ 1000) : ∀ (n : Nat) (md : Md) (s : Shared) (p : Pos) (q tp ts tt : Nat) (ln : Int) (tl : Nat) (es : Str) (te : Nat) (nc : NcT),
   HpW (W3 w a b c) s.heap (lT X Y q tp (.str (stM md) ts) ⟨⟨tokM md⟩⟩ tt ln tl (qdM md) es te nc) → (isB md = true → es = sEQ) → (nc = none → isSp md = true) → q ≤ X.buf.length → (tokM md).length ≤ q → Beh (keysT X Y) s₀ s →
   LoK (W3 w a b c) R X Y rt x s₀ (lexF cm n md (X.buf.cps.toList.drop q)) → wpCode (model prg (W3 w a b c)) (gLoop Y.L rt x) R p s
 | 0, md, s, p, q, tp, ts, tt, ln, tl, es, te, nc, H, hB, hN, hq, ht, B, K => K.elim
 | n + 1, md, s, p, q, tp, ts, tt, ln, tl, es, te, nc, H, hB, hN, hq, ht, B, K => by
   refine turn_all H hB hN hcm hnl hf hq ht ?_
   have K1 : LoK (W3 w a b c) R X Y rt x s₀ (match turnF cm md (X.buf.cps.toList.drop q) with | .inl x => lexF cm n x.1 x.2 | .inr o => o) := K
   have G := turn_goes cm md (X.buf.cps.toList.drop q)
   have E : turnF cm md (X.buf.cps.toList.drop q) = .inr .err → X.buf.cps.toList.drop q = [] ∧ stM md = ⟨#[39]⟩ := err_only
   cases hT : turnF cm md (X.buf.cps.toList.drop q) with
   | inl y =>
     obtain ⟨md', l'⟩ := y
     rw [hT] at K1 G
     obtain ⟨j, h1, h2, h3, h4⟩ := G
     have h5 := drop_len' (buf := X.buf) (q := q) rfl
     have hl : l'.length = X.buf.length - q - j := by rw [h1, List.length_drop, ← h5]
     have hj : X.buf.length - l'.length = q + j := by omega
     intro es' hes s' p' tp' ts' tt' ln' tl' te' h' k' v' H' B'
     refine loop_spec hcm hnl hf n md' s' p' (X.buf.length - l'.length) tp' ts' tt' ln' tl' es' te' _ H' hes (fun h => nomatch h) (by omega) (by omega) (Beh.trans B B' fun _ z => z) ?_
     have e : X.buf.cps.toList.drop (X.buf.length - l'.length) = l' := by rw [hj, ← List.drop_drop, h1]
     rw [e]
     exact K1
   | inr o =>
     rw [hT] at K1
     cases o with
     | brk st t qd l => cases st <;> exact fun es' => (K1 es').behind B
     | bad => exact K1.elim
     | err =>
       obtain ⟨z1, z2⟩ := E hT
       have z3 := drop_len z1 hq
       have hqe : q = X.buf.length := by simpa using z3
       subst hqe
       rw [z2] at H
       cases nc with
       | none => exact absurd (hN rfl) (by cases md <;> first | (exact absurd z2 (by decide)) | simp [isSp])
       | some v =>
         obtain ⟨h', k', v'⟩ := v
         exact K1 (tokM md) (qdM md) es s p tp ts tt ln tl te h' k' v' H B
end
end Mine
end
section
namespace Mine
open PySem PySem.W
noncomputable abbrev cRT (self : Nat) : Code := .call (.ref 713) ⟨[.ref self], []⟩
noncomputable abbrev gRT (self : Nat) (x : S3) : Ctx := ⟨cRT self, none, none, x.l, none⟩
noncomputable def rtH (w : World) : Nat → Int
 | 0 => reduceHash (w.params.strHash #[115,101,108,102])
 | 1 => reduceHash (w.params.strHash #[113,117,111,116,101,100])
 | _ => reduceHash (w.params.strHash #[101,115,99,97,112,101,100,115,116,97,116,101])
noncomputable def rtK (n : Nat) : Nat → Nat
 | 0 => n
 | 1 => n + 1
 | _ => n + 3
noncomputable def rtY (w : World) (s : Shared) (B : Nat) : Rt := ⟨B + 4, rtH w, rtK s.toks, 3⟩
noncomputable def rtF (B : Nat) : Fm := ⟨rtDef.2.1, envRT (B + 4), ⟨583,8,705,32⟩⟩
noncomputable def rA (w : World) (s : Shared) (B : Nat) (X : Lx) (q : Int) (tp : Nat) (st : Value) (tok : Str) (tt : Nat) (ln : Int) (tl : Nat) (x : S3) (p : Pos) : Option Out :=
 rn w s B (lSh X q tp st tok tt ln tl) 29 (gRT X.self x) p [] (den (cRT X.self)) 1429714083532800 []
theorem rt_beh {X : Lx} {w : World} {s s1 s2 : Shared} {B : Nat} (hB : s.heap.objs.size = B + 4) (b1 : Beh [X.io, X.ioD, X.self, X.sd] s s1) (b2 : Beh (keysT X (rtY w s B)) s1 s2) : Beh [X.io, X.ioD, X.self, X.sd] s s2 :=
 Beh.trans_new b1 b2 fun z hz => by
   simp only [List.mem_cons, List.not_mem_nil, or_false] at hz ⊢
   rcases hz with h | h | h | h | h
   · simp [h]
   · simp [h]
   · simp [h]
   · simp [h]
   · right; rw [h, hB]; exact Nat.le_refl _
section
variable {w : World} {a b c : Bool} {s s1 : Shared} {X : Lx} {q tp tt tl te k₀ t0 B tp₀ tt₀ tl₀ : Nat} {q₀ ln₀ : Int} {st₀ st v₀ : Value} {tok₀ tok es : Str} {tr : List Nat} {h₀ ln : Int} {qd : Bool} {x : S3} {p : Pos} {R : Result → Shared → Prop}
theorem rt_start (H : HpW (W3 w a b c) s.heap (lSh X q₀ tp₀ st₀ tok₀ tt₀ ln₀ tl₀))
   (K : ∀ B s' p', s.heap.objs.size = B + 4 → HpW (W3 w a b c) s'.heap (lT X (rtY (W3 w a b c) s B) q₀ tp₀ st₀ tok₀ tt₀ ln₀ tl₀ false ⟨#[32]⟩ (s.toks + 2) none) → Beh [X.io, X.ioD, X.self, X.sd] s s' →
     wpCode (model prg (W3 w a b c)) (gLoop (B + 4) (rtF B) x) (fun r s'' => Mn (model prg (W3 w a b c)) R (cfΓ (rA (W3 w a b c) s B X q₀ tp₀ st₀ tok₀ tt₀ ln₀ tl₀ x p)) (cfp (rA (W3 w a b c) s B X q₀ tp₀ st₀ tok₀ tt₀ ln₀ tl₀ x p)) (cfκ (rA (W3 w a b c) s B X q₀ tp₀ st₀ tok₀ tt₀ ln₀ tl₀ x p)) (ansT (rA (W3 w a b c) s B X q₀ tp₀ st₀ tok₀ tt₀ ln₀ tl₀ x p) r) s'') p' s') :
   wpCode (model prg (W3 w a b c)) (gRT X.self x) R p s := by
 refine code_mn (c := cRT X.self) rfl (sn_call H 29 1429714083532800 [] [0,1,2,3,4] (fun B => [ioObj X.ioD, ioDict X.Hi X.Ki X.buf X.tb X.nl q₀ tp₀ X.epi, shObj X.sd, sdDict X st₀ tok₀ tt₀ ln₀ tl₀, rtFrame X.self (rtY (W3 w a b c) s B) false ⟨#[32]⟩ (s.toks + 2) none]) (fun B => gLoop (B + 4) (rtF B) x) true dsN ?_ (by decide) ?_ ?_)
 · kernel_rfl
 · cases a <;> (intro B; kernel_rfl)
 · exact fun B s' p' hB h1 b1 => K B s' p' hB h1 b1
theorem rt_t (H : HpW (W3 w a b c) s1.heap (lT X (rtY (W3 w a b c) s B) q tp st ⟨⟨t0 :: tr⟩⟩ tt ln tl false es te (some (h₀, k₀, v₀))))  (hB : s.heap.objs.size = B + 4) (b1 : Beh [X.io, X.ioD, X.self, X.sd] s s1) (hR : ∀ s' (tt' tv : Nat), HpW (W3 w a b c) s'.heap (lSh X q tp st ⟨#[]⟩ tt' ln tl) → Beh [X.io, X.ioD, X.self, X.sd] s s' → R (.ok (.ret (.str ⟨⟨t0 :: tr⟩⟩ tv))) s') :
   Mn (model prg (W3 w a b c)) R (cfΓ (rA (W3 w a b c) s B X q₀ tp₀ st₀ tok₀ tt₀ ln₀ tl₀ x p)) (cfp (rA (W3 w a b c) s B X q₀ tp₀ st₀ tok₀ tt₀ ln₀ tl₀ x p)) (cfκ (rA (W3 w a b c) s B X q₀ tp₀ st₀ tok₀ tt₀ ln₀ tl₀ x p)) (ansT (rA (W3 w a b c) s B X q₀ tp₀ st₀ tok₀ tt₀ ln₀ tl₀ x p) (.ok .next)) s1 := by
 refine sn_ok H 112 52623430055434972934157735980116070031775252908489419115082042647335386921788778439125630934963095929194248551343547482309 [(false, false), (false, false)] [0,1,2,3] (fun _ => [ioObj X.ioD, ioDict X.Hi X.Ki X.buf X.tb X.nl q tp X.epi, shObj X.sd, sdDict X st ⟨#[]⟩ (s1.toks + 2) ln tl]) (fun _ => .ret (.str ⟨⟨t0 :: tr⟩⟩ tt)) ?_ ?_ (by decide) ?_ ?_
 · exact dsC rfl (dsC rfl dsN)
 · kernel_rfl
 · cases a <;> (intro B2; kernel_rfl)
 · exact fun B2 s2 _ h2 b2 => hR s2 _ tt h2 (rt_beh (w := W3 w a b c) hB b1 b2)
theorem rt_q (H : HpW (W3 w a b c) s1.heap (lT X (rtY (W3 w a b c) s B) q tp st tok tt ln tl true es te (some (h₀, k₀, v₀))))  (hB : s.heap.objs.size = B + 4) (b1 : Beh [X.io, X.ioD, X.self, X.sd] s s1) (hR : ∀ s' (tt' tv : Nat), HpW (W3 w a b c) s'.heap (lSh X q tp st ⟨#[]⟩ tt' ln tl) → Beh [X.io, X.ioD, X.self, X.sd] s s' → R (.ok (.ret (.str tok tv))) s') :
   Mn (model prg (W3 w a b c)) R (cfΓ (rA (W3 w a b c) s B X q₀ tp₀ st₀ tok₀ tt₀ ln₀ tl₀ x p)) (cfp (rA (W3 w a b c) s B X q₀ tp₀ st₀ tok₀ tt₀ ln₀ tl₀ x p)) (cfκ (rA (W3 w a b c) s B X q₀ tp₀ st₀ tok₀ tt₀ ln₀ tl₀ x p)) (ansT (rA (W3 w a b c) s B X q₀ tp₀ st₀ tok₀ tt₀ ln₀ tl₀ x p) (.ok .next)) s1 := by
 refine sn_ok H 106 12847517103377678939003353510897303366192320699411086550722997359581015543449225232979374617039379373535384124604285125 [(false, false)] [0,1,2,3] (fun _ => [ioObj X.ioD, ioDict X.Hi X.Ki X.buf X.tb X.nl q tp X.epi, shObj X.sd, sdDict X st ⟨#[]⟩ (s1.toks + 2) ln tl]) (fun _ => .ret (.str tok tt)) ?_ ?_ (by decide) ?_ ?_
 · exact dsC rfl dsN
 · kernel_rfl
 · cases a <;> (intro B2; kernel_rfl)
 · exact fun B2 s2 _ h2 b2 => hR s2 _ tt h2 (rt_beh (w := W3 w a b c) hB b1 b2)
theorem rt_n (H : HpW (W3 w a b c) s1.heap (lT X (rtY (W3 w a b c) s B) q tp st ⟨#[]⟩ tt ln tl false es te (some (h₀, k₀, v₀))))  (hB : s.heap.objs.size = B + 4) (b1 : Beh [X.io, X.ioD, X.self, X.sd] s s1) (hR : ∀ s' (tt' tv : Nat), HpW (W3 w a b c) s'.heap (lSh X q tp st ⟨#[]⟩ tt' ln tl) → Beh [X.io, X.ioD, X.self, X.sd] s s' → R (.ok (.ret .none)) s') :
   Mn (model prg (W3 w a b c)) R (cfΓ (rA (W3 w a b c) s B X q₀ tp₀ st₀ tok₀ tt₀ ln₀ tl₀ x p)) (cfp (rA (W3 w a b c) s B X q₀ tp₀ st₀ tok₀ tt₀ ln₀ tl₀ x p)) (cfκ (rA (W3 w a b c) s B X q₀ tp₀ st₀ tok₀ tt₀ ln₀ tl₀ x p)) (ansT (rA (W3 w a b c) s B X q₀ tp₀ st₀ tok₀ tt₀ ln₀ tl₀ x p) (.ok .next)) s1 := by
 refine sn_ok H 120 215545569507061649138310086576690890601516197502891384010148919443550940901259310008490468029934630449775475931503096970084549 [(true, true), (false, false)] [0,1,2,3] (fun _ => [ioObj X.ioD, ioDict X.Hi X.Ki X.buf X.tb X.nl q tp X.epi, shObj X.sd, sdDict X st ⟨#[]⟩ (s1.toks + 2) ln tl]) (fun _ => .ret .none) ?_ ?_ (by decide) ?_ ?_
 · exact dsC rfl (dsC rfl dsN)
 · kernel_rfl
 · cases a <;> (intro B2; kernel_rfl)
 · exact fun B2 s2 _ h2 b2 => hR s2 _ 0 h2 (rt_beh (w := W3 w a b c) hB b1 b2)
noncomputable def rtRes (t : List Nat) (qd : Bool) : Option Str := if t.isEmpty && !qd then none else some ⟨⟨t⟩⟩
noncomputable def RtOk (w : World) (R : Result → Shared → Prop) (X : Lx) (s : Shared) (q : Nat) (st res : Option Str) : Prop :=
 ∀ s' tp ts tt (ln : Int) tl tv, HpW w s'.heap (lSh X q tp (stV st ts) ⟨#[]⟩ tt ln tl) → Beh [X.io, X.ioD, X.self, X.sd] s s' → R (.ok (.ret (stV res tv))) s'
theorem rt_tail {t : List Nat} (H : HpW (W3 w a b c) s1.heap (lT X (rtY (W3 w a b c) s B) q tp st ⟨⟨t⟩⟩ tt ln tl qd es te (some (h₀, k₀, v₀)))) (hB : s.heap.objs.size = B + 4) (b1 : Beh [X.io, X.ioD, X.self, X.sd] s s1)
   (hR : ∀ s' (tt' tv : Nat), HpW (W3 w a b c) s'.heap (lSh X q tp st ⟨#[]⟩ tt' ln tl) → Beh [X.io, X.ioD, X.self, X.sd] s s' → R (.ok (.ret (stV (rtRes t qd) tv))) s') :
   Mn (model prg (W3 w a b c)) R (cfΓ (rA (W3 w a b c) s B X q₀ tp₀ st₀ tok₀ tt₀ ln₀ tl₀ x p)) (cfp (rA (W3 w a b c) s B X q₀ tp₀ st₀ tok₀ tt₀ ln₀ tl₀ x p)) (cfκ (rA (W3 w a b c) s B X q₀ tp₀ st₀ tok₀ tt₀ ln₀ tl₀ x p)) (ansT (rA (W3 w a b c) s B X q₀ tp₀ st₀ tok₀ tt₀ ln₀ tl₀ x p) (.ok .next)) s1 := by
 cases qd with
 | true =>
   refine rt_q H hB b1 fun s' tt' tv h b => ?_
   have := hR s' tt' tv h b
   unfold rtRes at this
   rw [if_neg (by simp)] at this
   exact this
 | false =>
   cases t with
   | nil => exact rt_n H hB b1 hR
   | cons t0 tr => exact rt_t H hB b1 hR
theorem rt_spec {q₀ ts₀ tn n : Nat} {cm : Bool} {st : Bool} {t l : List Nat} (H : HpW (W3 w a b c) s.heap (lSh X q₀ tp₀ (.str ⟨#[32]⟩ ts₀) ⟨#[]⟩ tt₀ ln₀ tl₀)) (hcm : X.cm = cmS cm) (hnl : X.nl = .str ⟨#[10]⟩ tn) (hf : X.buf.length ≤ 1000) (hq : q₀ ≤ X.buf.length)
   (hL : lexF cm n .sp (X.buf.cps.toList.drop q₀) = .brk st t qd l) (hR : RtOk (W3 w a b c) R X s (X.buf.length - l.length) (if st then some ⟨#[32]⟩ else none) (rtRes t qd)) :
   wpCode (model prg (W3 w a b c)) (gRT X.self x) R p s := by
 refine rt_start H fun B s1 p1 hB h1 b1 => ?_
 refine loop_spec (s₀ := s1) hcm hnl hf n .sp s1 p1 q₀ tp₀ ts₀ tt₀ ln₀ tl₀ ⟨#[32]⟩ (s.toks + 2) none h1 (fun h => nomatch h) (fun _ => rfl) hq (Nat.zero_le _) (Beh.refl _ _) ?_
 rw [hL]
 cases st with
 | true => exact fun es s2 tp ts tt ln tl te h k v h2 b2 => rt_tail h2 hB (rt_beh (w := W3 w a b c) hB b1 b2) fun s' tt' tv h3 b3 => hR s' tp ts tt' ln tl tv h3 b3
 | false => exact fun es s2 tp ts tt ln tl te h k v h2 b2 => rt_tail h2 hB (rt_beh (w := W3 w a b c) hB b1 b2) fun s' tt' tv h3 b3 => hR s' tp ts tt' ln tl tv h3 b3
theorem rt_none {q₀ : Nat} (H : HpW (W3 w a b c) s.heap (lSh X q₀ tp₀ .none ⟨#[]⟩ tt₀ ln₀ tl₀)) (hf : X.buf.length ≤ 1000) (hq : q₀ = X.buf.length) (hR : RtOk (W3 w a b c) R X s X.buf.length none none) :
   wpCode (model prg (W3 w a b c)) (gRT X.self x) R p s := by
 refine rt_start H fun B s1 p1 hB h1 b1 => ?_
 have hd : X.buf.cps.toList.drop q₀ = [] := List.drop_of_length_le (by have : X.buf.length = X.buf.cps.size := rfl; simp; omega)
 refine t_n_eof h1 hf (by omega) (nxt_nil hd) ?_
 rw [adv_nil hd (by omega)]
 exact fun s2 tp ts tt ln tl te h k v h2 b2 => rt_tail (t := []) h2 hB (rt_beh (w := W3 w a b c) hB b1 b2) fun s' tt' tv h3 b3 => hR s' tp ts tt' ln tl tv h3 b3
end
end Mine
end
section
namespace Mine
open PySem PySem.W
noncomputable def dqObj : Obj := ⟨.type "collections.deque", none, .fields #[.none, .int 0 0], #[]⟩
noncomputable def gtDef : Dft := clsDef 24 5
noncomputable def envGT (L : Nat) : Env := { scope := gtDef.2.2, locals := L, globals := 3, cells := [], qual := ⟨#[115,104,108,101,120,46,103,101,116,95,116,111,107,101,110,46,60,108,111,99,97,108,115,62,46]⟩, func := some 706, code := .ref 705, frame := some L, builtins := 0 }
noncomputable abbrev cGT (self : Nat) : Code := .call (.ref 706) ⟨[.ref self], []⟩
noncomputable abbrev gGT (self : Nat) (nx : Fm) (y : S2) : Ctx := ⟨cGT self, none, none, nx.c :: y.l, none⟩
noncomputable abbrev lG (X : Lx) (q : Int) (tp : Nat) (st : Value) (tok : Str) (tt : Nat) (ln : Int) (tl : Nat) : List (Nat × Obj) :=
 [(X.io, ioObj X.ioD), (X.ioD, ioDict X.Hi X.Ki X.buf X.tb X.nl q tp X.epi), (X.self, shObj X.sd), (X.sd, sdDict X st tok tt ln tl), (X.pb, dqObj), (X.fs, dqObj)]
noncomputable abbrev keysG (X : Lx) : List Nat := [X.io, X.ioD, X.self, X.sd, X.pb, X.fs]
noncomputable def gtFrame (w : World) (self t : Nat) : Obj := ⟨.type "frame", none, .dict #[⟨reduceHash (w.params.strHash #[115,101,108,102]), .str ⟨#[115,101,108,102]⟩ t, .ref self⟩] 1, #[]⟩
noncomputable def gtF (B : Nat) : Fm := ⟨gtDef.2.1, envGT (B + 6), ⟨559,14,559,31⟩⟩
noncomputable abbrev gtC (X : Lx) (w : World) (s : Shared) (B : Nat) : List (Nat × Obj) := [(X.pb, dqObj), (X.fs, dqObj), (B + 6, gtFrame w X.self s.toks)]
noncomputable def rG (w : World) (s : Shared) (B : Nat) (X : Lx) (q : Int) (tp : Nat) (st : Value) (tok : Str) (tt : Nat) (ln : Int) (tl : Nat) (nx : Fm) (y : S2) (p : Pos) : Option Out :=
 rn w s B (lG X q tp st tok tt ln tl) 67 (gGT X.self nx y) p [] (den (cGT X.self)) 457613389782538055328276832849805847673761145604707390928550886741236281344 []
theorem gt_beh {X : Lx} {w : World} {s s1 s2 : Shared} {B : Nat} (hB : s.heap.objs.size = B + 6) (b1 : Beh (keysG X) s s1) (b2 : Beh [X.io, X.ioD, X.self, X.sd, X.pb, X.fs, B + 6] s1 s2) : Beh (keysG X) s s2 :=
 Beh.trans_new b1 b2 fun z hz => by
   simp only [List.mem_cons, List.not_mem_nil, or_false] at hz ⊢
   rcases hz with h | h | h | h | h | h | h
   · simp [h]
   · simp [h]
   · simp [h]
   · simp [h]
   · simp [h]
   · simp [h]
   · right; rw [h, hB]; exact Nat.le_refl _
section
variable {w : World} {a b c : Bool} {s s1 : Shared} {X : Lx} {q tp tt tl B tp₀ tt₀ tl₀ : Nat} {q₀ ln₀ : Int} {st₀ st : Value} {tok₀ tok : Str} {ln : Int} {nx : Fm} {y : S2} {p : Pos} {R : Result → Shared → Prop}
theorem gt_start (H : HpW (W3 w a b c) s.heap (lG X q₀ tp₀ st₀ tok₀ tt₀ ln₀ tl₀))
   (K : ∀ B s' p', s.heap.objs.size = B + 6 → HpW (W3 w a b c) s'.heap (lSh X q₀ tp₀ st₀ tok₀ tt₀ ln₀ tl₀ ++ gtC X (W3 w a b c) s B) → Beh (keysG X) s s' →
     wpCode (model prg (W3 w a b c)) (gRT X.self ⟨y, nx, gtF B⟩) (fun r s'' => Mn (model prg (W3 w a b c)) R (cfΓ (rG (W3 w a b c) s B X q₀ tp₀ st₀ tok₀ tt₀ ln₀ tl₀ nx y p)) (cfp (rG (W3 w a b c) s B X q₀ tp₀ st₀ tok₀ tt₀ ln₀ tl₀ nx y p)) (cfκ (rG (W3 w a b c) s B X q₀ tp₀ st₀ tok₀ tt₀ ln₀ tl₀ nx y p)) (ansT (rG (W3 w a b c) s B X q₀ tp₀ st₀ tok₀ tt₀ ln₀ tl₀ nx y p) r) s'') p' s') :
   wpCode (model prg (W3 w a b c)) (gGT X.self nx y) R p s := by
 refine code_mn (c := cGT X.self) rfl (sn_call H 67 457613389782538055328276832849805847673761145604707390928550886741236281344 [] [0,1,2,3,4,5,6] (fun B => [ioObj X.ioD, ioDict X.Hi X.Ki X.buf X.tb X.nl q₀ tp₀ X.epi, shObj X.sd, sdDict X st₀ tok₀ tt₀ ln₀ tl₀, dqObj, dqObj, gtFrame (W3 w a b c) X.self s.toks]) (fun B => gRT X.self ⟨y, nx, gtF B⟩) true dsN ?_ (by decide) ?_ ?_)
 · kernel_rfl
 · cases a <;> (intro B; kernel_rfl)
 · exact fun B s' p' hB h1 b1 => K B s' p' hB h1 b1
theorem gt_t {tv : Nat} {v : Str} (H : HpW (W3 w a b c) s1.heap (lSh X q tp st tok tt ln tl ++ gtC X (W3 w a b c) s B)) (hB : s.heap.objs.size = B + 6) (b1 : Beh (keysG X) s s1) (hR : ∀ s', HpW (W3 w a b c) s'.heap (lG X q tp st tok tt ln tl) → Beh (keysG X) s s' → R (.ok (.ret (.str v tv))) s') :
   Mn (model prg (W3 w a b c)) R (cfΓ (rG (W3 w a b c) s B X q₀ tp₀ st₀ tok₀ tt₀ ln₀ tl₀ nx y p)) (cfp (rG (W3 w a b c) s B X q₀ tp₀ st₀ tok₀ tt₀ ln₀ tl₀ nx y p)) (cfκ (rG (W3 w a b c) s B X q₀ tp₀ st₀ tok₀ tt₀ ln₀ tl₀ nx y p)) (ansT (rG (W3 w a b c) s B X q₀ tp₀ st₀ tok₀ tt₀ ln₀ tl₀ nx y p) (.ok (.ret (.str v tv)))) s1 := by
 refine sn_ok H 91 226313161049069633873199309293620344244248350181827178747014970492686531069519969500557767 [(false, false)] [0,1,2,3,4,5] (fun _ => [ioObj X.ioD, ioDict X.Hi X.Ki X.buf X.tb X.nl q tp X.epi, shObj X.sd, sdDict X st tok tt ln tl, dqObj, dqObj]) (fun _ => .ret (.str v tv)) ?_ ?_ (by decide) ?_ ?_
 · exact dsC rfl dsN
 · kernel_rfl
 · cases a <;> (intro B2; kernel_rfl)
 · exact fun B2 s2 _ h2 b2 => hR s2 h2 (gt_beh (w := W3 w a b c) hB b1 b2)
theorem gt_n {tv : Nat} {v : Str} (H : HpW (W3 w a b c) s1.heap (lSh X q tp st tok tt ln tl ++ gtC X (W3 w a b c) s B)) (hB : s.heap.objs.size = B + 6) (b1 : Beh (keysG X) s s1) (hR : ∀ s', HpW (W3 w a b c) s'.heap (lG X q tp st tok tt ln tl) → Beh (keysG X) s s' → R (.ok (.ret .none)) s') :
   Mn (model prg (W3 w a b c)) R (cfΓ (rG (W3 w a b c) s B X q₀ tp₀ st₀ tok₀ tt₀ ln₀ tl₀ nx y p)) (cfp (rG (W3 w a b c) s B X q₀ tp₀ st₀ tok₀ tt₀ ln₀ tl₀ nx y p)) (cfκ (rG (W3 w a b c) s B X q₀ tp₀ st₀ tok₀ tt₀ ln₀ tl₀ nx y p)) (ansT (rG (W3 w a b c) s B X q₀ tp₀ st₀ tok₀ tt₀ ln₀ tl₀ nx y p) (.ok (.ret .none))) s1 := by
 refine sn_ok H 112 41323681440605879985696226901328733896128686972826849865457037390788698695267630638655541859083679365389759214738490552775 [] [0,1,2,3,4,5] (fun _ => [ioObj X.ioD, ioDict X.Hi X.Ki X.buf X.tb X.nl q tp X.epi, shObj X.sd, sdDict X st tok tt ln tl, dqObj, dqObj]) (fun _ => .ret .none) ?_ ?_ (by decide) ?_ ?_
 · exact dsN
 · kernel_rfl
 · cases a <;> (intro B2; kernel_rfl)
 · exact fun B2 s2 _ h2 b2 => hR s2 h2 (gt_beh (w := W3 w a b c) hB b1 b2)
noncomputable def GtOk (w : World) (R : Result → Shared → Prop) (X : Lx) (s : Shared) (q : Nat) (st res : Option Str) : Prop :=
 ∀ s' tp ts tt (ln : Int) tl tv, HpW w s'.heap (lG X q tp (stV st ts) ⟨#[]⟩ tt ln tl) → Beh (keysG X) s s' → R (.ok (.ret (stV res tv))) s'
theorem gt_join {q₀ q : Nat} {st' res : Option Str} (h1 : HpW (W3 w a b c) s1.heap (lSh X q₀ tp₀ st₀ tok₀ tt₀ ln₀ tl₀ ++ gtC X (W3 w a b c) s B)) (hB : s.heap.objs.size = B + 6) (b1 : Beh (keysG X) s s1) (hR : GtOk (W3 w a b c) R X s q st' res) :
   RtOk (W3 w a b c) (fun r s'' => Mn (model prg (W3 w a b c)) R (cfΓ (rG (W3 w a b c) s B X q₀ tp₀ st₀ tok₀ tt₀ ln₀ tl₀ nx y p)) (cfp (rG (W3 w a b c) s B X q₀ tp₀ st₀ tok₀ tt₀ ln₀ tl₀ nx y p)) (cfκ (rG (W3 w a b c) s B X q₀ tp₀ st₀ tok₀ tt₀ ln₀ tl₀ nx y p)) (ansT (rG (W3 w a b c) s B X q₀ tp₀ st₀ tok₀ tt₀ ln₀ tl₀ nx y p) r) s'') X s1 q st' res := by
 intro s2 tp ts tt ln tl tv h2 b2
 have H2 := Hp.join (A := lSh X q₀ tp₀ st₀ tok₀ tt₀ ln₀ tl₀) (A' := lSh X q tp (stV st' ts) ⟨#[]⟩ tt ln tl) (C := gtC X (W3 w a b c) s B) h1 h2 b2 rfl
 have b3 : Beh (keysG X) s s2 := Beh.trans b1 b2 (by intro z hz; simp only [List.mem_cons, List.not_mem_nil, or_false] at hz ⊢; rcases hz with h | h | h | h <;> simp [h])
 cases res with
 | none => exact gt_n (tv := 0) (v := ⟨#[]⟩) H2 hB b3 fun s' h b => hR s' tp ts tt ln tl 0 h b
 | some v => exact gt_t H2 hB b3 fun s' h b => hR s' tp ts tt ln tl tv h b
theorem gt_spec {q₀ ts₀ tn n : Nat} {cm st qd : Bool} {t l : List Nat} (H : HpW (W3 w a b c) s.heap (lG X q₀ tp₀ (.str ⟨#[32]⟩ ts₀) ⟨#[]⟩ tt₀ ln₀ tl₀)) (hcm : X.cm = cmS cm) (hnl : X.nl = .str ⟨#[10]⟩ tn) (hf : X.buf.length ≤ 1000) (hq : q₀ ≤ X.buf.length)
   (hL : lexF cm n .sp (X.buf.cps.toList.drop q₀) = .brk st t qd l) (hR : GtOk (W3 w a b c) R X s (X.buf.length - l.length) (if st then some ⟨#[32]⟩ else none) (rtRes t qd)) :
   wpCode (model prg (W3 w a b c)) (gGT X.self nx y) R p s := by
 refine gt_start H fun B s1 p1 hB h1 b1 => ?_
 exact rt_spec (Hp.part h1) hcm hnl hf hq hL (gt_join h1 hB b1 hR)
theorem gt_none {q₀ : Nat} (H : HpW (W3 w a b c) s.heap (lG X q₀ tp₀ .none ⟨#[]⟩ tt₀ ln₀ tl₀)) (hf : X.buf.length ≤ 1000) (hq : q₀ = X.buf.length) (hR : GtOk (W3 w a b c) R X s X.buf.length none none) :
   wpCode (model prg (W3 w a b c)) (gGT X.self nx y) R p s := by
 refine gt_start H fun B s1 p1 hB h1 b1 => ?_
 exact rt_none (Hp.part h1) hf hq (gt_join h1 hB b1 hR)
end
end Mine
end
section
namespace Mine
open PySem PySem.W
noncomputable def nxDef : Dft := clsDef 24 10
noncomputable def envNX (L : Nat) : Env := { scope := nxDef.2.2, locals := L, globals := 3, cells := [], qual := ⟨#[115,104,108,101,120,46,95,95,110,101,120,116,95,95,46,60,108,111,99,97,108,115,62,46]⟩, func := some 742, code := .ref 741, frame := some L, builtins := 0 }
noncomputable abbrev cNX (self : Nat) : Code := .call (.ref 742) ⟨[.ref self], []⟩
noncomputable abbrev gNX (self : Nat) (y : S2) : Ctx := ⟨cNX self, none, none, y.l, none⟩
noncomputable def nxF (B : Nat) : Fm := ⟨nxDef.2.1, envNX (B + 6), ⟨731,16,731,32⟩⟩
noncomputable abbrev nxC (X : Lx) (w : World) (s : Shared) (B : Nat) : List (Nat × Obj) := [(B + 6, gtFrame w X.self s.toks)]
noncomputable def rN (w : World) (s : Shared) (B : Nat) (X : Lx) (q : Int) (tp : Nat) (st : Value) (tok : Str) (tt : Nat) (ln : Int) (tl : Nat) (y : S2) (p : Pos) : Option Out :=
 rn w s B (lG X q tp st tok tt ln tl) 33 (gNX X.self y) p [] (den (cNX X.self)) 5379219545500109865957861124954943488 []
section
variable {w : World} {a b c : Bool} {s s1 : Shared} {X : Lx} {q tp tt tl B tp₀ tt₀ tl₀ : Nat} {q₀ ln₀ : Int} {st₀ st : Value} {tok₀ tok : Str} {ln : Int} {y : S2} {p : Pos} {R : Result → Shared → Prop}
theorem nx_start (H : HpW (W3 w a b c) s.heap (lG X q₀ tp₀ st₀ tok₀ tt₀ ln₀ tl₀))
   (K : ∀ B s' p', s.heap.objs.size = B + 6 → HpW (W3 w a b c) s'.heap (lG X q₀ tp₀ st₀ tok₀ tt₀ ln₀ tl₀ ++ nxC X (W3 w a b c) s B) → Beh (keysG X) s s' →
     wpCode (model prg (W3 w a b c)) (gGT X.self (nxF B) y) (fun r s'' => Mn (model prg (W3 w a b c)) R (cfΓ (rN (W3 w a b c) s B X q₀ tp₀ st₀ tok₀ tt₀ ln₀ tl₀ y p)) (cfp (rN (W3 w a b c) s B X q₀ tp₀ st₀ tok₀ tt₀ ln₀ tl₀ y p)) (cfκ (rN (W3 w a b c) s B X q₀ tp₀ st₀ tok₀ tt₀ ln₀ tl₀ y p)) (ansT (rN (W3 w a b c) s B X q₀ tp₀ st₀ tok₀ tt₀ ln₀ tl₀ y p) r) s'') p' s') :
   wpCode (model prg (W3 w a b c)) (gNX X.self y) R p s := by
 refine code_mn (c := cNX X.self) rfl (sn_call H 33 5379219545500109865957861124954943488 [] [0,1,2,3,4,5,6] (fun B => [ioObj X.ioD, ioDict X.Hi X.Ki X.buf X.tb X.nl q₀ tp₀ X.epi, shObj X.sd, sdDict X st₀ tok₀ tt₀ ln₀ tl₀, dqObj, dqObj, gtFrame (W3 w a b c) X.self s.toks]) (fun B => gGT X.self (nxF B) y) true dsN ?_ (by decide) ?_ ?_)
 · kernel_rfl
 · cases a <;> (intro B; kernel_rfl)
 · exact fun B s' p' hB h1 b1 => K B s' p' hB h1 b1
theorem nx_t {tv : Nat} {v : Str} (H : HpW (W3 w a b c) s1.heap (lG X q tp st tok tt ln tl ++ nxC X (W3 w a b c) s B)) (hB : s.heap.objs.size = B + 6) (b1 : Beh (keysG X) s s1) (hR : ∀ s', HpW (W3 w a b c) s'.heap (lG X q tp st tok tt ln tl) → Beh (keysG X) s s' → R (.ok (.ret (.str v tv))) s') :
   Mn (model prg (W3 w a b c)) R (cfΓ (rN (W3 w a b c) s B X q₀ tp₀ st₀ tok₀ tt₀ ln₀ tl₀ y p)) (cfp (rN (W3 w a b c) s B X q₀ tp₀ st₀ tok₀ tt₀ ln₀ tl₀ y p)) (cfκ (rN (W3 w a b c) s B X q₀ tp₀ st₀ tok₀ tt₀ ln₀ tl₀ y p)) (ansT (rN (W3 w a b c) s B X q₀ tp₀ st₀ tok₀ tt₀ ln₀ tl₀ y p) (.ok (.ret (.str v tv)))) s1 := by
 refine sn_ok H 44 145384629010560364416460639241531847 [] [0,1,2,3,4,5] (fun _ => [ioObj X.ioD, ioDict X.Hi X.Ki X.buf X.tb X.nl q tp X.epi, shObj X.sd, sdDict X st tok tt ln tl, dqObj, dqObj]) (fun _ => .ret (.str v tv)) dsN ?_ (by decide) ?_ ?_
 · kernel_rfl
 · cases a <;> (intro B2; kernel_rfl)
 · exact fun B2 s2 _ h2 b2 => hR s2 h2 (gt_beh (w := W3 w a b c) hB b1 b2)
theorem nx_spec {q₀ ts₀ tn n : Nat} {cm st qd : Bool} {t l : List Nat} {v : Str} (H : HpW (W3 w a b c) s.heap (lG X q₀ tp₀ (.str ⟨#[32]⟩ ts₀) ⟨#[]⟩ tt₀ ln₀ tl₀)) (hcm : X.cm = cmS cm) (hnl : X.nl = .str ⟨#[10]⟩ tn) (hf : X.buf.length ≤ 1000) (hq : q₀ ≤ X.buf.length)
   (hL : lexF cm n .sp (X.buf.cps.toList.drop q₀) = .brk st t qd l) (hv : rtRes t qd = some v) (hR : GtOk (W3 w a b c) R X s (X.buf.length - l.length) (if st then some ⟨#[32]⟩ else none) (some v)) :
   wpCode (model prg (W3 w a b c)) (gNX X.self y) R p s := by
 refine nx_start H fun B s1 p1 hB h1 b1 => ?_
 refine gt_spec (Hp.part h1) hcm hnl hf hq hL ?_
 rw [hv]
 intro s2 tp ts tt ln tl tv h2 b2
 have H2 := Hp.join (A := lG X q₀ tp₀ (.str ⟨#[32]⟩ ts₀) ⟨#[]⟩ tt₀ ln₀ tl₀) (A' := lG X (X.buf.length - l.length : Nat) tp (stV (if st then some ⟨#[32]⟩ else none) ts) ⟨#[]⟩ tt ln tl) (C := nxC X (W3 w a b c) s B) h1 h2 b2 rfl
 exact nx_t H2 hB (Beh.trans b1 b2 fun _ z => z) fun s' h b => hR s' tp ts tt ln tl tv h b
end
end Mine
end
section
namespace Mine
open PySem PySem.W
open PySem.Sem (wp finPost)
open PySem.W.X (KT)
section
variable {w : World} {R : Result → Shared → Prop} {Γ : Ctx} {p : Pos} {κ : List Kf} {t : Sem Fin} {s : Shared} {L : List (Nat × Obj)}
theorem sv_at {vs : List (Value × Value)} (H : HpW w s.heap L) (n tr : Nat) (ds : List (Bool × Bool)) (js : List Nat) (os : Nat → List Obj) (Γ' : Nat → Ctx) (t' : Nat → Sem Fin) (hds : ∀ d ∈ ds, d.1 = d.2) (hw : wholeT L 0 .nil = true) (hjs : js.Nodup)
   (e : ∀ B, chk js (rnv w vs s B L n Γ p κ t tr ds) = owed (rnv w vs s B L n Γ p κ t tr ds) ((os B).map some) .other true)
   (eΓ : ∀ B, cfΓ (rnv w vs s B L n Γ p κ t tr ds) = Γ' B) (et : ∀ B, cft (rnv w vs s B L n Γ p κ t tr ds) = t' B)
   (fin : ∀ B s' p', s.heap.objs.size = B + L.length → HpW w s'.heap (zipA (vW w s B L) js (os B)) → Beh (L.map (·.1)) s s' → Mn (model prg w) R (Γ' B) p' [] (t' B) s') (hvs : ∀ v ∈ vs, v.1 = v.2) :
   Mn (model prg w) R Γ p κ t s :=
 ⟨sg (hvs := hvs) H n tr ds js os (fun _ => .other) true hds hw hjs e fun B s' hB h1 h2 => by
   have z := fin B s' (cfp (rnv w vs s B L n Γ p κ t tr ds)) hB h1 h2
   rw [← eΓ B, ← et B] at z
   obtain ⟨o, eo, hv, hk⟩ := vw_of (e B)
   have hk' : cfκ (rnv w vs s B L n Γ p κ t tr ds) = [] := by rw [eo]; exact List.isEmpty_iff.mp hk
   rw [hk']
   exact z.out⟩
theorem sn_at (H : HpW w s.heap L) (n tr : Nat) (ds : List (Bool × Bool)) (js : List Nat) (os : Nat → List Obj) (Γ' : Nat → Ctx) (t' : Nat → Sem Fin) (hds : ∀ d ∈ ds, d.1 = d.2) (hw : wholeT L 0 .nil = true) (hjs : js.Nodup)
   (e : ∀ B, chk js (rn w s B L n Γ p κ t tr ds) = owed (rn w s B L n Γ p κ t tr ds) ((os B).map some) .other true)
   (eΓ : ∀ B, cfΓ (rn w s B L n Γ p κ t tr ds) = Γ' B) (et : ∀ B, cft (rn w s B L n Γ p κ t tr ds) = t' B)
   (fin : ∀ B s' p', s.heap.objs.size = B + L.length → HpW w s'.heap (zipA (vW w s B L) js (os B)) → Beh (L.map (·.1)) s s' → Mn (model prg w) R (Γ' B) p' [] (t' B) s') :
   Mn (model prg w) R Γ p κ t s := sv_at H n tr ds js os Γ' t' hds hw hjs e eΓ et fin (fun _ h => nomatch h)
end
/-! ### heaps with holes -/
noncomputable def punch (o : Obj) : Obj := ⟨o.cls, o.dict, .freed, o.slots⟩
noncomputable def holes : List Nat → Heap → Heap
 | [], h => h
 | k :: ks, h => (holes ks h).update k punch
theorem punch_get (h : Heap) (k : Nat) : (h.update k punch).get? k = none := by
 cases h with | mk objs l =>
 show (match (objs.modify k punch)[k]? with | some ⟨_, _, .freed, _⟩ => none | o => o) = none
 rw [Array.getElem?_modify, if_pos rfl]
 cases objs[k]? <;> rfl
theorem holes_get : ∀ (ks : List Nat) (h : Heap) (b : Nat), (holes ks h).get? b = if b ∈ ks then none else h.get? b
 | [], h, b => by simp [holes]
 | k :: ks, h, b => by
   show ((holes ks h).update k punch).get? b = _
   by_cases e : b = k
   · subst e
     rw [punch_get, if_pos (.head _)]
   · rw [Heap.get?_update_other _ _ (Ne.symm e), holes_get ks h b]
     by_cases q : b ∈ ks
     · rw [if_pos q, if_pos (.tail _ q)]
     · rw [if_neg q, if_neg (by simp [e, q])]
theorem holes_some {ks : List Nat} {h : Heap} {b : Nat} {o : Obj} : (holes ks h).get? b = some o ↔ h.get? b = some o ∧ b ∉ ks := by
 rw [holes_get]
 by_cases q : b ∈ ks <;> simp [q]
theorem holes_none {ks : List Nat} {h : Heap} {b : Nat} : (holes ks h).get? b = none ↔ b ∈ ks ∨ h.get? b = none := by
 rw [holes_get]
 by_cases q : b ∈ ks <;> simp [q]
noncomputable def reS (f : Nat → Array (Option Value)) (Fr : List (Nat × Obj)) : List (Nat × Obj) := Fr.map fun x => (x.1, { x.2 with slots := f x.1 })
theorem reS_keys (f : Nat → Array (Option Value)) (Fr : List (Nat × Obj)) : (reS f Fr).map (·.1) = Fr.map (·.1) := by
 unfold reS; rw [List.map_map]; rfl
noncomputable def NoFields (Fr : List (Nat × Obj)) : Prop := ∀ x ∈ Fr, ∀ vs, x.2.data ≠ .fields vs
noncomputable def FrOk (l : List Env) (Fr : List (Nat × Obj)) : Prop := ∀ env ∈ l, env.scope.kind ≠ .module ∧ ∃ x ∈ Fr, env.frame = some x.1
noncomputable abbrev NotTop (w : World) (a : Nat) : Prop := NoTop 797 (kt w.params) a
noncomputable def Dead (s₀ s : Shared) : Prop := ∀ b, s.heap.get? b = none → s₀.heap.get? b = none
noncomputable def Fly (w : World) (s₀ : Shared) (h : Heap) (e : Nat) (cls : Value) (args : List Value) (fl : Value) : Prop :=
 ∃ oe vs T oT ts t, h.get? e = some oe ∧ oe.cls = cls ∧ oe.data = .fields vs ∧ vs[0]? = some (.ref t) ∧ vs[1]? = some (.ref T) ∧ T ≠ e ∧ h.get? T = some oT ∧ oT.data = .fields ts ∧ ts[3]? = some fl ∧ h.TupAt t args ∧
   (s₀.heap.get? e = none ∧ s₀.heap.get? T = none ∧ s₀.heap.get? t = none) ∧ 797 ≤ e ∧ NotTop w T ∧ 797 ≤ t
theorem Fly.mono {w : World} {s₀ s₁ : Shared} {h : Heap} {e : Nat} {cls : Value} {args : List Value} {fl : Value} (D : Dead s₁ s₀) (F : Fly w s₀ h e cls args fl) : Fly w s₁ h e cls args fl := by
 obtain ⟨oe, vs, T, oT, ts, t, h1, h2, h3, h4, h5, h6, h7, h8, h9, h10,⟨h11, h12, h13⟩, h14⟩ := F
 exact ⟨oe, vs, T, oT, ts, t, h1, h2, h3, h4, h5, h6, h7, h8, h9, h10,⟨D _ h11, D _ h12, D _ h13⟩, h14⟩
noncomputable def New (s₀ : Shared) (h : Heap) (e : Nat) (cls : Value) (args : List Value) : Prop :=
 ∃ oe vs t, h.get? e = some oe ∧ oe.cls = cls ∧ oe.data = .fields vs ∧ vs[0]? = some (.ref t) ∧ vs[1]? = some .none ∧ h.TupAt t args ∧
   (s₀.heap.get? e = none ∧ s₀.heap.get? t = none) ∧ 797 ≤ e ∧ 797 ≤ t
section
variable {w : World} {h h' : Heap} {A Fr : List (Nat × Obj)} {ks : List Nat}
theorem hp_after (H : HpW w h (A ++ Fr)) (st : (holes (Fr.map (·.1) ++ ks) h).StaysIn h') (up : ∀ b o, h.get? b = some o → (∀ vs, o.data ≠ .fields vs) → ∃ sl, h'.get? b = some { o with slots := sl })
   (hk : ∀ k ∈ ks, NotTop w k) (hA : ∀ k ∈ ks, k ∉ A.map (·.1)) (hN : NoFields Fr) (hbig : 797 ≤ h'.objs.size) : ∃ f, HpW w h' (A ++ reS f Fr) := by
 have sep := H.sep
 rw [List.map_append] at sep
 have hsl : ∀ x ∈ Fr, ∃ sl, h'.get? x.1 = some { x.2 with slots := sl } := fun x hx => up _ _ (H.own x (List.mem_append_right _ hx)) (hN x hx)
 have hf : ∃ f : Nat → Array (Option Value), ∀ x ∈ Fr, h'.get? x.1 = some { x.2 with slots := f x.1 } := by
   refine ⟨fun a => match h'.get? a with | some o => o.slots | none => #[], fun x hx => ?_⟩
   obtain ⟨sl, e⟩ := hsl x hx
   dsimp only
   rw [e]
 obtain ⟨f, hf⟩ := hf
 have keepA : ∀ x ∈ A, h'.get? x.1 = some x.2 := fun x hx => st _ _ (holes_some.mpr ⟨H.own x (List.mem_append_left _ hx), fun q => by
   rcases List.mem_append.mp q with q | q
   · exact (List.nodup_append.mp sep).2.2 x.1 (List.mem_map_of_mem hx) x.1 q rfl
   · exact hA _ q (List.mem_map_of_mem hx)⟩)
 refine ⟨f, fun a o ha e => ?_, fun x hx => ?_, ?_, fun x hx => ?_, ?_⟩
 · refine st _ _ (holes_some.mpr ⟨H.top a o ha e, fun q => ?_⟩)
   rcases List.mem_append.mp q with q | q
   · obtain ⟨x, hx, rfl⟩ := List.mem_map.mp q
     exact H.low x (List.mem_append_right _ hx) o ha e
   · exact hk _ q o ha e
 · rcases List.mem_append.mp hx with hx | hx
   · exact keepA x hx
   · unfold reS at hx
     obtain ⟨y, hy, rfl⟩ := List.mem_map.mp hx
     exact hf y hy
 · rw [List.map_append, reS_keys]; exact sep
 · rcases List.mem_append.mp hx with hx | hx
   · exact H.low x (List.mem_append_left _ hx)
   · unfold reS at hx
     obtain ⟨y, hy, rfl⟩ := List.mem_map.mp hx
     exact H.low y (List.mem_append_right _ hy)
 · exact hbig
theorem frames_in (H : HpW w h (A ++ Fr)) (hN : NoFields Fr) : ∀ {l : List Env}, FrOk l Fr → h.FunFrames (holes (Fr.map (·.1) ++ ks) h) l
 | [], _ => trivial
 | env :: l, hF => by
   obtain ⟨h1, x, hx, h2⟩ := hF env (.head _)
   exact ⟨h1,⟨x.1, x.2, h2, holes_none.mpr (.inl (List.mem_append_left _ (List.mem_map_of_mem hx))), H.own x (List.mem_append_right _ hx), hN x hx⟩, frames_in H hN fun e he => hF e (.tail _ he)⟩
end
section
variable {w : World} {s s₀ : Shared} {A Fr : List (Nat × Obj)} {ks as : List Nat} {e t : Nat} {cls fl : Value} {args : List Value} {h' : Heap}
noncomputable def Flown (w : World) (A Fr : List (Nat × Obj)) (as : List Nat) (s₀ s : Shared) (e : Nat) (cls : Value) (args : List Value) (fl : Value) (h' : Heap) (f : Nat → Array (Option Value)) : Prop :=
 HpW w h' (A ++ reS f Fr) ∧ Beh as s₀ { s with heap := h' } ∧ Dead s₀ { s with heap := h' } ∧ Fly w s₀ h' e cls args fl
theorem fly_after (H : HpW w s.heap (A ++ Fr)) (hN : NoFields Fr) (hB : Beh as s₀ s) (hD : Dead s₀ s) (hsub : ∀ x ∈ Fr, x.1 ∈ as) (hA : ∀ x ∈ A, s₀.heap.get? x.1 ≠ none)
   (hks : ∀ k ∈ ks, NotTop w k ∧ s₀.heap.get? k = none) (he : e ∈ ks) (he7 : 797 ≤ e) (ht7 : 797 ≤ t ∧ s₀.heap.get? t = none) (ht : s.heap.TupAt t args)
   (st : (holes (Fr.map (·.1) ++ ks) s.heap).StaysIn h') (up : ∀ b o, s.heap.get? b = some o → (∀ vs, o.data ≠ .fields vs) → ∃ sl, h'.get? b = some { o with slots := sl })
   (tr : h'.TracedAtW (holes (Fr.map (·.1) ++ ks) s.heap) e cls (.ref t) fl) : ∃ f, Flown w A Fr as s₀ s e cls args fl h' f := by
 obtain ⟨oe, vs, T, oT, ts, t1,⟨t2, t3⟩, t4, t5, t6, t7, t8, t9, t10⟩ := tr
 obtain ⟨f, hf⟩ := hp_after H st up (fun k hk => (hks k hk).1) (fun k hk q => by
   obtain ⟨x, hx, rfl⟩ := List.mem_map.mp q
   exact hA x hx (hks _ hk).2) hN (Nat.le_trans he7 (Nat.le_of_lt (Heap.lt_size t1)))
 have keep : ∀ b o, s₀.heap.get? b ≠ none → s.heap.get? b = some o → b ∉ Fr.map (·.1) → h'.get? b = some o := fun b o h0 h1 hb => st _ _ (holes_some.mpr ⟨h1, fun q => by
   rcases List.mem_append.mp q with q | q
   · exact hb q
   · exact h0 (hks _ q).2⟩)
 have frs : ∀ b, b ∈ Fr.map (·.1) → h'.get? b ≠ none := fun b hb q => by
   obtain ⟨x, hx, rfl⟩ := List.mem_map.mp hb
   obtain ⟨sl, es⟩ := up _ _ (H.own x (List.mem_append_right _ hx)) (hN x hx)
   rw [es] at q; cases q
 have dead : Dead s₀ { s with heap := h' } := fun b hb => by
   cases q : s₀.heap.get? b with
   | none => rfl
   | some o =>
     exfalso
     cases q1 : s.heap.get? b with
     | none => have := hD b q1; rw [q] at this; cases this
     | some o1 =>
       by_cases m : b ∈ Fr.map (·.1)
       · exact frs b m hb
       · have : h'.get? b = some o1 := keep b o1 (by rw [q]; simp) q1 m
         rw [this] at hb; cases hb
 refine ⟨f, hf, ⟨fun b o h0 hb => ?_, hB.gens, hB.drawn, hB.os⟩, dead, oe, vs, T, oT, ts, t, t1, t2, t4, t3, t5, t7, t8, t9, t10, ht.of_slots up, ⟨(hks e he).2, ?_, ht7.2⟩, he7, fun o h1 h2 => ?_, ht7.1⟩
 · exact keep b o (by rw [h0]; simp) (hB.keep b o h0 hb) fun q => by
     obtain ⟨x, hx, rfl⟩ := List.mem_map.mp q
     exact hb (hsub x hx)
 · rcases holes_none.mp t6 with q | q
   · rcases List.mem_append.mp q with q | q
     · obtain ⟨x, hx, rfl⟩ := List.mem_map.mp q
       obtain ⟨sl, es⟩ := up _ _ (H.own x (List.mem_append_right _ hx)) (hN x hx)
       rw [es] at t8
       injection t8 with t8
       rw [← t8] at t9
       exact absurd t9 (hN x hx ts)
     · exact (hks _ q).2
   · exact hD _ q
 · have hs : s.heap.get? T = some o := H.top T o h1 h2
   rcases holes_none.mp t6 with q | q
   · rcases List.mem_append.mp q with q | q
     · obtain ⟨x, hx, rfl⟩ := List.mem_map.mp q
       exact H.low x (List.mem_append_right _ hx) o h1 h2
     · exact (hks _ q).1 o h1 h2
   · rw [hs] at q; cases q
noncomputable def arF (Γ : Ctx) : Around := { arOf Γ with frames := some (Γ.code.envs ++ envsOf Γ.below) }
theorem in_arF (Γ : Ctx) : Γ.In (arF Γ) := ⟨rfl, Nat.le_refl _, fun _ h => by injection h, fun _ h => (nomatch h), Nat.le_refl _⟩
theorem notTop_of {a : Nat} (h : 797 ≤ a) : NotTop w a := fun _ h1 _ => absurd h (Nat.not_le.mpr h1)
end
section
variable {w : World} {s s₀ : Shared} {A Fr : List (Nat × Obj)} {as : List Nat} {e : Nat} {cls fl : Value} {args : List Value} {env : Env} {outer : List Env} {L : Nat} {Γ : Ctx} {p : Pos} {Q : Unit → Shared → Prop} {E : Value → Shared → Prop} {M : Model}
structure Std (w : World) (A Fr : List (Nat × Obj)) (as : List Nat) (s₀ s : Shared) (l : List Env) : Prop where
 H : HpW w s.heap (A ++ Fr)
 hN : NoFields Fr
 hB : Beh as s₀ s
 hD : Dead s₀ s
 hsub : ∀ x ∈ Fr, x.1 ∈ as
 hA : ∀ x ∈ A, s₀.heap.get? x.1 ≠ none
 hF : FrOk l Fr
theorem note_first (S : Std w A Fr as s₀ s (env :: outer)) (hfr : Γ.code.envs ++ envsOf Γ.below = env :: outer) (hf : env.frame = some L) (N : New s₀ s.heap e cls args)
   (h : ∀ h' f, Flown w A Fr as s₀ s e cls args (rawInt L) h' f → Q () { s with heap := h' }) : wp M Γ (noteFrame (.ref e) env) (fun a _ s' => Q a s') (fun e _ s' => E e s') p s := by
 obtain ⟨oe, vs, t, n1, n2, n3, n4, n5, n6,⟨n7, n8⟩, n9, n10⟩ := N
 refine (?_ : wpAny M (arF Γ) (noteFrame (.ref e) env) Q E s) Γ p (in_arF Γ)
 unfold noteFrame
 simp only [hf]
 refine wpAny_bind (wpAny_field n1 n3 n5 ?_)
 rw [if_neg (by decide)]
 refine wpAny_entryW (base := holes (Fr.map (·.1) ++ [e]) s.heap) (outer := outer) (congrArg some hfr) (frames_in S.H S.hN S.hF) hf n1 (fun b o q => (holes_some.mp q).1) (holes_none.mpr (.inl (by simp))) n3 (Array.getElem?_eq_some_iff.mp n5).1 n4 fun h' hN => ?_
 obtain ⟨k1, _, k3, k4⟩ := hN
 rw [n2] at k3
 obtain ⟨f, hf⟩ := fly_after (ks := [e]) S.H S.hN S.hB S.hD S.hsub S.hA (fun k hk => by rw [List.mem_singleton.mp hk]; exact ⟨notTop_of n9, n7⟩) (.head _) n9 ⟨n10, n8⟩ n6 k1 k4 k3
 exact h h' f hf
theorem leave_first (S : Std w A Fr as s₀ s (env :: outer)) (hfr : Γ.code.envs ++ envsOf Γ.below = env :: outer) (hf : env.frame = some L) (N : New s₀ s.heap e cls args)
   (h : ∀ h' f, Flown w A Fr as s₀ s e cls args .none h' f → Q () { s with heap := h' }) : wp M Γ (leaving env (.ref e)) (fun a _ s' => Q a s') (fun e _ s' => E e s') p s := by
 obtain ⟨oe, vs, t, n1, n2, n3, n4, n5, n6,⟨n7, n8⟩, n9, n10⟩ := N
 refine (?_ : wpAny M (arF Γ) (leaving env (.ref e)) Q E s) Γ p (in_arF Γ)
 refine wpAny_leaving_firstW (base := holes (Fr.map (·.1) ++ [e]) s.heap) (outer := outer) (congrArg some hfr) (frames_in S.H S.hN S.hF) hf n1 (fun b o q => (holes_some.mp q).1) (holes_none.mpr (.inl (by simp))) n3 n5 n4 fun h' hN => ?_
 obtain ⟨k1, _, k3, k4⟩ := hN
 rw [n2] at k3
 obtain ⟨f, hf⟩ := fly_after (ks := [e]) S.H S.hN S.hB S.hD S.hsub S.hA (fun k hk => by rw [List.mem_singleton.mp hk]; exact ⟨notTop_of n9, n7⟩) (.head _) n9 ⟨n10, n8⟩ n6 k1 k4 k3
 exact h h' f hf
theorem leave_next (S : Std w A Fr as s₀ s (env :: outer)) (hfr : Γ.code.envs ++ envsOf Γ.below = env :: outer) (hf : env.frame = some L) (F : Fly w s₀ s.heap e cls args .none)
   (h : ∀ h' f, Flown w A Fr as s₀ s e cls args .none h' f → Q () { s with heap := h' }) : wp M Γ (leaving env (.ref e)) (fun a _ s' => Q a s') (fun e _ s' => E e s') p s := by
 obtain ⟨oe, vs, T, oT, ts, t, h1, h2, h3, h4, h5, h6, h7, h8, h9, h10,⟨h11, h12, h13⟩, h14, h15, h16⟩ := F
 refine (?_ : wpAny M (arF Γ) (leaving env (.ref e)) Q E s) Γ p (in_arF Γ)
 refine wpAny_leaving_nextW (base := holes (Fr.map (·.1) ++ [e, T]) s.heap) (outer := outer) (a0 := .ref t) (cls := cls) (congrArg some hfr) (frames_in S.H S.hN S.hF) hf
   ⟨oe, vs, T, oT, ts, h1,⟨h2, h4⟩, h3, h5, holes_none.mpr (.inl (by simp)), h6, h7, h8, h9⟩ (fun b o q => (holes_some.mp q).1) (holes_none.mpr (.inl (by simp))) fun h' hN => ?_
 obtain ⟨k1, _, k3, k4⟩ := hN
 obtain ⟨f, hf⟩ := fly_after (ks := [e, T]) S.H S.hN S.hB S.hD S.hsub S.hA (fun k hk => by
   simp only [List.mem_cons, List.not_mem_nil, or_false] at hk
   rcases hk with rfl | rfl
   · exact ⟨notTop_of h14, h11⟩
   · exact ⟨h15, h12⟩) (.head _) h14 ⟨h16, h13⟩ h10 k1 k4 k3
 exact h h' f hf
theorem note_next (S : Std w A Fr as s₀ s (env :: outer)) (hfr : Γ.code.envs ++ envsOf Γ.below = env :: outer) (hf : env.frame = some L) (F : Fly w s₀ s.heap e cls args .none)
   (h : ∀ h' f, Flown w A Fr as s₀ s e cls args (rawInt L) h' f → Q () { s with heap := h' }) : wp M Γ (noteFrame (.ref e) env) (fun a _ s' => Q a s') (fun e _ s' => E e s') p s := by
 obtain ⟨oe, vs, T, oT, ts, t, h1, h2, h3, h4, h5, h6, h7, h8, h9, h10,⟨h11, h12, h13⟩, h14, h15, h16⟩ := F
 refine (?_ : wpAny M (arF Γ) (noteFrame (.ref e) env) Q E s) Γ p (in_arF Γ)
 refine wpAny_noteFrame_onW (base := holes (Fr.map (·.1) ++ [e, T]) s.heap) (outer := outer) (a0 := .ref t) (cls := cls) (congrArg some hfr) (frames_in S.H S.hN S.hF) hf
   ⟨oe, vs, T, oT, ts, h1,⟨h2, h4⟩, h3, h5, holes_none.mpr (.inl (by simp)), h6, h7, h8, h9⟩ (fun b o q => (holes_some.mp q).1) (holes_none.mpr (.inl (by simp))) fun h' hN => ?_
 obtain ⟨k1, _, k3, k4⟩ := hN
 obtain ⟨f, hf⟩ := fly_after (ks := [e, T]) S.H S.hN S.hB S.hD S.hsub S.hA (fun k hk => by
   simp only [List.mem_cons, List.not_mem_nil, or_false] at hk
   rcases hk with rfl | rfl
   · exact ⟨notTop_of h14, h11⟩
   · exact ⟨h15, h12⟩) (.head _) h14 ⟨h16, h13⟩ h10 k1 k4 k3
 exact h h' f hf
theorem land (S : Std w A Fr as s₀ s outer) (F : Fly w s₀ s.heap e cls args fl)
   (h : ∀ h' f, Flown w A Fr as s₀ s e cls args .none h' f → Q () { s with heap := h' }) : wp M Γ (setFlight (.ref e) none) (fun a _ s' => Q a s') (fun e _ s' => E e s') p s := by
 obtain ⟨oe, vs, T, oT, ts, t, h1, h2, h3, h4, h5, h6, h7, h8, h9, h10,⟨h11, h12, h13⟩, h14, h15, h16⟩ := F
 refine (?_ : wpAny M (arF Γ) (setFlight (.ref e) none) Q E s) Γ p (in_arF Γ)
 refine wpAny_setFlight_noneW (base := holes (Fr.map (·.1) ++ [e, T]) s.heap) (a0 := .ref t) (cls := cls) (fl := fl) (fun b o q => (holes_some.mp q).1) (frames_in S.H S.hN S.hF)
   ⟨oe, vs, T, oT, ts, h1,⟨h2, h4⟩, h3, h5, holes_none.mpr (.inl (by simp)), h6, h7, h8, h9⟩ fun h' k1 _ k3 k4 => ?_
 obtain ⟨f, hf⟩ := fly_after (ks := [e, T]) S.H S.hN S.hB S.hD S.hsub S.hA (fun k hk => by
   simp only [List.mem_cons, List.not_mem_nil, or_false] at hk
   rcases hk with rfl | rfl
   · exact ⟨notTop_of h14, h11⟩
   · exact ⟨h15, h12⟩) (.head _) h14 ⟨h16, h13⟩ h10 k1 (fun b o hb hn => ⟨o.slots, k4 b o hb hn⟩) k3
 exact h h' f hf
theorem note_again (hf : env.frame = some L) (F : Fly w s₀ s.heap e cls args (rawInt L)) (h : Q () s) : wp M Γ (noteFrame (.ref e) env) (fun a _ s' => Q a s') (fun e _ s' => E e s') p s := by
 obtain ⟨oe, vs, T, oT, ts, t, h1, h2, h3, h4, h5, h6, h7, h8, h9, h10,⟨h11, h12, h13⟩, h14, h15, h16⟩ := F
 refine (?_ : wpAny M (arF Γ) (noteFrame (.ref e) env) Q E s) Γ p (in_arF Γ)
 exact wpAny_noteFrame_againW (base := holes [T] s.heap) (cls := cls) (a0 := .ref t) hf ⟨oe, vs, T, oT, ts, h1,⟨h2, h4⟩, h3, h5, holes_none.mpr (.inl (by simp)), h6, h7, h8, h9⟩ h
theorem leave_held (S : Std w A Fr as s₀ s outer) (hf : env.frame = some L) (F : Fly w s₀ s.heap e cls args (rawInt L))
   (h : ∀ h' f, Flown w A Fr as s₀ s e cls args .none h' f → Q () { s with heap := h' }) : wp M Γ (leaving env (.ref e)) (fun a _ s' => Q a s') (fun e _ s' => E e s') p s := by
 unfold leaving
 rw [Sem.wp_bind']
 refine Sem.wp_mono M Γ _ (fun a p' s' h' => ?_) (fun _ _ _ h' => h') p s (note_again (Q := fun _ s' => s' = s) (E := E) hf F rfl)
 rw [h']
 exact land S F h
end
end Mine
end
section
namespace Mine
open PySem PySem.W
open PySem.Sem (wp finPost)
section
variable {w : World} {s s₀ : Shared} {A Fr : List (Nat × Obj)} {as : List Nat} {e : Nat} {cls fl : Value} {args : List Value} {env : Env} {outer : List Env} {L : Nat} {Γ : Ctx} {p : Pos} {R : Result → Shared → Prop} {M : Model}
noncomputable abbrev noted (e : Nat) (env : Env) : Sem Fin := (Sem.bind (do noteFrame (.ref e) env; theTreesLotGoes (.ref e) : Sem Unit) fun _ => Sem.raise (.ref e))
noncomputable abbrev left (e : Nat) (env : Env) : Sem Fin := Sem.bind (Sem.bind (leaving env (.ref e)) fun _ => (Sem.raise (.ref e) : Sem Flow)) fun r => match r with | .ret v => ret v | _ => ret .none
noncomputable abbrev notedT (e : Nat) (env : Env) : Sem Fin := PySem.W.R.bindR (PySem.W.R.bindR (Fast.tw17872113653443481271 (.ref e) env) fun _ => Fast.tw1623429502029203251 (.ref e)) fun _ => Sem.raise (.ref e)
noncomputable abbrev leftT (e : Nat) (env : Env) : Sem Fin := PySem.W.R.bindR (PySem.W.R.bindR (Fast.tw9442747609961115081 env (.ref e)) fun _ => (Sem.raise (.ref e) : Sem Flow)) fun r => match r with | .ret v => Fast.tw6905046200447255374 v | _ => Fast.tw6905046200447255374 .none
theorem notedT_eq (e : Nat) (env : Env) : notedT e env = noted e env := by
 unfold notedT noted
 rw [← Fast.te17872113653443481271, ← Fast.te1623429502029203251, ← PySem.W.R.bindR_eq]
 rfl
theorem leftT_eq (e : Nat) (env : Env) : leftT e env = left e env := by
 unfold leftT left
 rw [← Fast.te9442747609961115081, ← Fast.te6905046200447255374, ← PySem.W.R.bindR_eq]
theorem mn_noted (h : wp M Γ (noteFrame (.ref e) env) (fun _ _ s' => R (.error (.ref e)) s') (fun _ _ _ => False) p s) : Mn M R Γ p [] (notedT e env) s := by
 rw [notedT_eq]
 refine ⟨?_⟩
 show wp M Γ (Sem.bind (do noteFrame (.ref e) env; theTreesLotGoes (.ref e) : Sem Unit) fun _ => Sem.raise (.ref e)) _ _ p s
 rw [Sem.wp_bind]
 show wp M Γ ((noteFrame (.ref e) env) >>= fun _ => theTreesLotGoes (.ref e)) _ _ p s
 rw [Sem.wp_bind']
 refine Sem.wp_mono M Γ _ (fun _ p' s' h' => ?_) (fun _ _ _ h' => h'.elim) p s h
 refine (wpAny_theTreesLotGoes (M := M) (A := arF Γ) (Q := fun _ s'' => s'' = s') (E := fun _ _ => False) (x := .ref e) rfl) Γ p' (in_arF Γ) |> Sem.wp_mono M Γ _ (fun _ p'' s'' h'' => ?_) (fun _ _ _ h' => h'.elim) p' s'
 rw [Sem.wp_raise, h'']
 exact h'
theorem mn_left (h : wp M Γ (leaving env (.ref e)) (fun _ _ s' => R (.error (.ref e)) s') (fun _ _ _ => False) p s) : Mn M R Γ p [] (leftT e env) s := by
 rw [leftT_eq]
 refine ⟨?_⟩
 show wp M Γ (Sem.bind (Sem.bind (leaving env (.ref e)) fun _ => (Sem.raise (.ref e) : Sem Flow)) _) _ _ p s
 rw [Sem.wp_bind, Sem.wp_bind]
 refine Sem.wp_mono M Γ _ (fun _ p' s' h' => ?_) (fun _ _ _ h' => h'.elim) p s h
 rw [Sem.wp_raise]
 exact h'
end
theorem Hp.sub {n₁ : Nat} {kt : PySem.W.X.KT} {h : Heap} {L L' : List (Nat × Obj)} (q : List.Sublist L' L) (H : Hp n₁ kt h L) : Hp n₁ kt h L' :=
 ⟨H.top, fun x hx => H.own x (q.mem hx), List.Nodup.sublist (q.map _) H.sep, fun x hx => H.low x (q.mem hx), H.big⟩
theorem reS_reS (f g : Nat → Array (Option Value)) (Fr : List (Nat × Obj)) : reS f (reS g Fr) = reS f Fr := by
 unfold reS; rw [List.map_map]; rfl
theorem FrOk.re {l : List Env} {Fr : List (Nat × Obj)} (h : FrOk l Fr) (f : Nat → Array (Option Value)) : FrOk l (reS f Fr) := fun env he => by
 obtain ⟨h1, x, hx, h2⟩ := h env he
 exact ⟨h1, (x.1, { x.2 with slots := f x.1 }), List.mem_map_of_mem hx, h2⟩
theorem FrOk.cons {l : List Env} {Fr : List (Nat × Obj)} {env : Env} {L : Nat} {o : Obj} (h : FrOk l Fr) (hk : env.scope.kind ≠ .module) (hf : env.frame = some L) : FrOk (env :: l) ((L, o) :: Fr) := fun e he => by
 rcases List.mem_cons.mp he with rfl | he
 · exact ⟨hk, _, .head _, hf⟩
 · obtain ⟨h1, x, hx, h2⟩ := h e he
   exact ⟨h1, x, .tail _ hx, h2⟩
theorem NoFields.re {Fr : List (Nat × Obj)} (h : NoFields Fr) (f : Nat → Array (Option Value)) : NoFields (reS f Fr) := fun x hx vs e => by
 unfold reS at hx
 obtain ⟨y, hy, rfl⟩ := List.mem_map.mp hx
 exact h y hy vs e
theorem NoFields.cons {Fr : List (Nat × Obj)} {L : Nat} {o : Obj} (h : NoFields Fr) (ho : ∀ vs, o.data ≠ .fields vs) : NoFields ((L, o) :: Fr) := fun x hx => by
 rcases List.mem_cons.mp hx with rfl | hx
 · exact ho
 · exact h x hx
theorem Beh.drop {as bs : List Nat} {s s' : Shared} (h : Beh as s s') (hb : ∀ a ∈ as, a ∈ bs ∨ s.heap.get? a = none) : Beh bs s s' :=
 ⟨fun b o e n => h.keep b o e fun q => (hb b q).elim n fun z => (by rw [z] at e; cases e), h.gens, h.drawn, h.os⟩
theorem dead_of {as : List Nat} {s s' : Shared} (h : Beh as s s') (hl : ∀ a ∈ as, s'.heap.get? a ≠ none) : Dead s s' := fun b hb => by
 cases q : s.heap.get? b with
 | none => rfl
 | some o =>
   exfalso
   by_cases m : b ∈ as
   · exact hl b m hb
   · rw [h.keep b o q m] at hb; cases hb
theorem Dead.trans {s₀ s₁ s₂ : Shared} (h : Dead s₀ s₁) (g : Dead s₁ s₂) : Dead s₀ s₂ := fun b hb => h b (g b hb)
theorem hp_live {w : World} {h : Heap} {L : List (Nat × Obj)} (H : HpW w h L) {a : Nat} (ha : a ∈ L.map (·.1)) : h.get? a ≠ none := by
 obtain ⟨x, hx, rfl⟩ := List.mem_map.mp ha
 rw [H.own x hx]; simp
theorem Std.next {w : World} {A Fr : List (Nat × Obj)} {as : List Nat} {s₀ s : Shared} {l l' : List Env} {e : Nat} {cls fl : Value} {args : List Value} {h' : Heap} {f : Nat → Array (Option Value)} (S : Std w A Fr as s₀ s l) (F : Flown w A Fr as s₀ s e cls args fl h' f) (hl : FrOk l' Fr) :
   Std w A (reS f Fr) as s₀ { s with heap := h' } l' :=
 ⟨F.1, S.hN.re f, F.2.1, F.2.2.1, fun x hx => by
   unfold reS at hx
   obtain ⟨y, hy, rfl⟩ := List.mem_map.mp hx
   exact S.hsub y hy, S.hA, hl.re f⟩
noncomputable abbrev ownH (e : Nat) (env : Env) : Sem Unit := do
 if (← field (.ref e) 1) == .none then unsupported "frame.own-activation:exception-without-traceback"
 setFlight (.ref e) env.frame
noncomputable def ansF (t : Sem Flow) (r : Result) : Sem Flow := match t with
 | .call _ _ _ _ k => k r
 | t => t
noncomputable abbrev ownT (e : Nat) (env : Env) : Sem Flow := ansF (Fast.tw9046067596548197636 (.builtin "" {}) env none) (.error (.ref e))
theorem ownT_eq (e : Nat) (env : Env) : ownT e env = Sem.bind (ownH e env) fun _ => Sem.raise (.ref e) := by
 unfold ownT
 rw [← Fast.te9046067596548197636]
 rfl
noncomputable abbrev fR (r : Flow) : Sem Fin := match r with | .ret v => Fast.tw6905046200447255374 v | _ => Fast.tw6905046200447255374 .none
noncomputable abbrev kNext (rest : List Stmt) (env : Env) (f : Flow) : Sem Flow := match f with | .next => Fast.tw12563942051412417395 rest env | f => Sem.pure f
noncomputable abbrev leftOT (e : Nat) (env : Env) (k : Flow → Sem Flow) : Sem Fin := PySem.W.R.bindR (PySem.W.R.onRaiseR (PySem.W.R.bindR (ownT e env) k) (Fast.tw9442747609961115081 env)) fR
theorem leftOT_eq (e : Nat) (env : Env) (k : Flow → Sem Flow) : leftOT e env k = Sem.bind (Sem.onRaise (Sem.bind (Sem.bind (ownH e env) fun _ => Sem.raise (.ref e)) k) (leaving env)) fR := by
 unfold leftOT
 rw [← Fast.te9442747609961115081, ← PySem.W.R.bindR_eq, ← PySem.W.R.onRaiseR_eq, ownT_eq]
section
variable {w : World} {s s₀ : Shared} {A Fr : List (Nat × Obj)} {as : List Nat} {e : Nat} {cls fl : Value} {args : List Value} {env : Env} {outer : List Env} {L : Nat} {Γ : Ctx} {p : Pos} {R : Result → Shared → Prop} {Q : Unit → Shared → Prop} {E : Value → Shared → Prop} {M : Model}
theorem own_back (S : Std w A Fr as s₀ s outer) (hf : env.frame = some L) (F : Fly w s₀ s.heap e cls args fl)
   (h : ∀ h' f, Flown w A Fr as s₀ s e cls args (rawInt L) h' f → Q () { s with heap := h' }) : wp M Γ (ownH e env) (fun a _ s' => Q a s') (fun e _ s' => E e s') p s := by
 obtain ⟨oe, vs, T, oT, ts, t, h1, h2, h3, h4, h5, h6, h7, h8, h9, h10,⟨h11, h12, h13⟩, h14, h15, h16⟩ := F
 refine (?_ : wpAny M (arF Γ) (ownH e env) Q E s) Γ p (in_arF Γ)
 have hsz3 : 3 < ts.size := (Array.getElem?_eq_some_iff.mp h9).1
 have other : ∀ b, b ≠ T → (s.heap.update T (Obj.mapFields (·.setIfInBounds 3 (rawInt L)))).get? b = s.heap.get? b := fun b hb => Heap.get?_update_other _ _ (Ne.symm hb)
 have noRecord : ∀ b o, s.heap.get? b = some o → (∀ vs, o.data ≠ .fields vs) → b ≠ T := fun b o hb hnf q => by
   rw [q, h7] at hb; injection hb with hb; subst hb; exact hnf ts h8
 unfold ownH
 refine wpAny_bind (wpAny_field h1 h3 h5 ?_)
 rw [if_neg (by simp)]
 show wpAny M (arF Γ) (setFlight (.ref e) env.frame) Q E s
 rw [hf]
 unfold setFlight
 refine wpAny_bind (wpAny_field h1 h3 h5 ?_)
 rw [if_pos (show (Value.ref T != Value.none) = true from by simp)]
 refine wpAny_setField h7 h8 hsz3 ?_
 obtain ⟨f, hf'⟩ := fly_after (ks := [e, T]) (fl := rawInt L) (cls := cls) (h' := s.heap.update T (Obj.mapFields (·.setIfInBounds 3 (rawInt L)))) S.H S.hN S.hB S.hD S.hsub S.hA (fun k hk => by
   simp only [List.mem_cons, List.not_mem_nil, or_false] at hk
   rcases hk with rfl | rfl
   · exact ⟨notTop_of h14, h11⟩
   · exact ⟨h15, h12⟩) (.head _) h14 ⟨h16, h13⟩ h10 (fun b o hb => by
     obtain ⟨q1, q2⟩ := holes_some.mp hb
     exact (other b fun q => q2 (by rw [q]; simp)).trans q1) (fun b o hb hn => ⟨o.slots, (other b (noRecord b o hb hn)).trans hb⟩)
   ⟨oe, vs, T, _, _, (other e (Ne.symm h6)).trans h1,⟨h2, h4⟩, h3, h5, holes_none.mpr (.inl (by simp)), h6, Heap.get?_update_self _ h7 (Obj.isFreed_of_fields (Obj.data_mapFields h8 _)), Obj.data_mapFields h8 _, by simp [hsz3]⟩
 exact h _ f hf'
theorem mn_leftO (S : Std w A Fr as s₀ s (env :: outer)) (hf : env.frame = some L) (F : Fly w s₀ s.heap e cls args fl)
   (h : ∀ h' f, Flown w A Fr as s₀ s e cls args .none h' f → R (.error (.ref e)) { s with heap := h' }) (k : Flow → Sem Flow) : Mn M R Γ p [] (leftOT e env k) s := by
 rw [leftOT_eq]
 refine ⟨?_⟩
 show wp M Γ (Sem.bind (Sem.onRaise (Sem.bind (Sem.bind (ownH e env) fun _ => Sem.raise (.ref e)) k) (leaving env)) fR) _ _ p s
 rw [Sem.wp_bind, Sem.wp_onRaise, Sem.wp_bind, Sem.wp_bind]
 refine Sem.wp_mono M Γ _ (fun _ p' s' h' => ?_) (fun _ _ _ h' => h'.elim) p s (own_back (Q := fun _ s' => ∃ h' f, Flown w A Fr as s₀ s e cls args (rawInt L) h' f ∧ s' = { s with heap := h' }) (E := fun _ _ => False) S hf F fun h' f hF => ⟨h', f, hF, rfl⟩)
 obtain ⟨h1, f, hF, rfl⟩ := h'
 rw [Sem.wp_raise]
 have S1 := S.next hF S.hF
 refine Sem.wp_mono M Γ _ (fun _ p' s' h' => ?_) (fun _ _ _ h' => h'.elim) p' _ (leave_held (Q := fun _ s' => R (.error (.ref e)) s') (E := fun _ _ => False) S1 hf hF.2.2.2 fun h2 f2 hF2 => ?_)
 · exact h'
 · refine h h2 f2 ?_
   obtain ⟨q1, q2, q3, q4⟩ := hF2
   rw [reS_reS] at q1
   exact ⟨q1, q2, q3, q4⟩
theorem mn_leftN (S : Std w A Fr as s₀ s (env :: outer)) (hfr : Γ.code.envs ++ envsOf Γ.below = env :: outer) (hf : env.frame = some L) (F : Fly w s₀ s.heap e cls args .none)
   (h : ∀ h' f, Flown w A Fr as s₀ s e cls args .none h' f → R (.error (.ref e)) { s with heap := h' }) : Mn M R Γ p [] (leftT e env) s :=
 mn_left (leave_next (Q := fun _ s' => R (.error (.ref e)) s') (E := fun _ _ => False) S hfr hf F h)
theorem mn_leftF (S : Std w A Fr as s₀ s (env :: outer)) (hfr : Γ.code.envs ++ envsOf Γ.below = env :: outer) (hf : env.frame = some L) (N : New s₀ s.heap e cls args)
   (h : ∀ h' f, Flown w A Fr as s₀ s e cls args .none h' f → R (.error (.ref e)) { s with heap := h' }) : Mn M R Γ p [] (leftT e env) s :=
 mn_left (leave_first (Q := fun _ s' => R (.error (.ref e)) s') (E := fun _ _ => False) S hfr hf N h)
theorem mn_notedF (S : Std w A Fr as s₀ s (env :: outer)) (hfr : Γ.code.envs ++ envsOf Γ.below = env :: outer) (hf : env.frame = some L) (N : New s₀ s.heap e cls args)
   (h : ∀ h' f, Flown w A Fr as s₀ s e cls args (rawInt L) h' f → R (.error (.ref e)) { s with heap := h' }) : Mn M R Γ p [] (notedT e env) s :=
 mn_noted (note_first (Q := fun _ s' => R (.error (.ref e)) s') (E := fun _ _ => False) S hfr hf N h)
end
theorem Hp.join2 {n₁ : Nat} {kt : PySem.W.X.KT} {s s' : Shared} {A A' C : List (Nat × Obj)} {as : List Nat} (H : Hp n₁ kt s.heap (A ++ C)) (H' : Hp n₁ kt s'.heap A') (B : Beh as s s') (has : ∀ a ∈ as, a ∈ A.map (·.1) ∨ s.heap.get? a = none) (hA : ∀ x ∈ A', x.1 ∈ A.map (·.1) ∨ s.heap.get? x.1 = none) : Hp n₁ kt s'.heap (A' ++ C) := by
 have sep := H.sep
 rw [List.map_append] at sep
 have hC : ∀ a, a ∈ A.map (·.1) ∨ s.heap.get? a = none → a ∉ C.map (·.1) := fun a h q => by
   rcases h with h | h
   · exact (List.nodup_append.mp sep).2.2 a h a q rfl
   · obtain ⟨x, hx, rfl⟩ := List.mem_map.mp q
     rw [H.own x (List.mem_append_right _ hx)] at h; cases h
 refine ⟨H'.top, fun x hx => ?_, ?_, fun x hx => ?_, H'.big⟩
 · rcases List.mem_append.mp hx with hx | hx
   · exact H'.own x hx
   · exact B.keep _ _ (H.own x (List.mem_append_right _ hx)) fun q => hC _ (has _ q) (List.mem_map_of_mem hx)
 · rw [List.map_append]
   refine List.nodup_append.mpr ⟨H'.sep, (List.nodup_append.mp sep).2.1, fun a ha b hb e => ?_⟩
   subst e
   obtain ⟨x, hx, rfl⟩ := List.mem_map.mp ha
   exact hC _ (hA x hx) hb
 · rcases List.mem_append.mp hx with hx | hx
   · exact H'.low x hx
   · exact H.low x (List.mem_append_right _ hx)
end Mine
end
section
namespace Mine
open PySem PySem.W
noncomputable abbrev sNoC : Str := ⟨#[78,111,32,99,108,111,115,105,110,103,32,113,117,111,116,97,116,105,111,110]⟩
noncomputable def excNew (cls : String) (t : Nat) : Obj := ⟨.type cls, none, .fields #[.ref t, .none, .none, .none, .bool false, .none], #[]⟩
noncomputable def tup1 (v : Value) : Obj := ⟨.type "tuple", none, .seq #[v] 0, #[]⟩
section
variable {w : World} {a b c : Bool} {s : Shared} {X : Lx} {Y : Rt} {q tp ts tt tl te k₀ : Nat} {h₀ : Int} {v₀ : Value} {tok es : Str} {ln : Int} {qd : Bool} {rt : Fm} {x : S3} {p : Pos} {R : Result → Shared → Prop}
theorem t_q_eof (H : HpW (W3 w a b c) s.heap (lT X Y q tp (.str ⟨#[39]⟩ ts) tok tt ln tl qd es te (some (h₀, k₀, v₀)))) (hf : X.buf.length ≤ 1000) (hq : q ≤ X.buf.length) (hc : nxt X.buf q = ⟨#[]⟩)
   (K : ∀ s1 B2 s2 p2 tp1 tk, HpW (W3 w a b c) s1.heap (lT X Y (adv X.buf q : Nat) tp1 (.str ⟨#[39]⟩ ts) tok tt ln tl qd es te (some (h₀, k₀, v₀))) → s1.heap.objs.size = B2 + 5 → Beh (keysT X Y) s s1 → Beh (keysT X Y) s1 s2 →
     HpW (W3 w a b c) s2.heap (lT X Y (adv X.buf q : Nat) tp1 (.str ⟨#[39]⟩ ts) tok tt ln tl true es te (some (h₀, k₀, .str ⟨#[]⟩ tk)) ++ [(B2 + 6, excNew "ValueError" (B2 + 7)), (B2 + 7, tup1 (.str sNoC (s1.toks + 14)))]) →
     Mn (model prg (W3 w a b c)) R (gLoop Y.L rt x) p2 [] (notedT (B2 + 6) (envRT Y.L)) s2) :
   wpCode (model prg (W3 w a b c)) (gLoop Y.L rt x) R p s := by
 refine turn_start H hf hq hc fun B s1 tk tp1 H1 b1 => ?_
 refine sn_at H1 197 139346014169808851420874595524988225208564909145584940966462012281886847559755711265821898706905819602455616808873852798572609980076008987515109169026288702970185576737323170623240496766493992804096954693
   [(false, false), (false, false), (false, false), (true, true), (true, true), (false, false)] [0,1,2,3,4,6,7]
   (fun B2 => [ioObj X.ioD, ioDict X.Hi X.Ki X.buf X.tb X.nl (adv X.buf q : Nat) tp1 X.epi, shObj X.sd, sdDict X (.str ⟨#[39]⟩ ts) tok tt ln tl, rtFrame X.self Y true es te (some (h₀, k₀, .str ⟨#[]⟩ tk)), excNew "ValueError" (B2 + 7), tup1 (.str sNoC (s1.toks + 14))])
   (fun _ => gLoop Y.L rt x) (fun B2 => notedT (B2 + 6) (envRT Y.L)) ?_ rfl (by decide) ?_ ?_ ?_ ?_
 · exact dsC rfl (dsC rfl (dsC rfl (dsC rfl (dsC rfl (dsC rfl dsN)))))
 · cases a <;> (intro B2; kernel_rfl)
 · cases a <;> (intro B2; kernel_rfl)
 · cases a <;> (intro B2; kernel_rfl)
 · exact fun B2 s2 p2 hB2 h2 b2 => K s1 B2 s2 p2 tp1 tk H1 hB2 b1 b2 h2
end
theorem rt_kind (L : Nat) : (envRT L).scope.kind = .function := by kernel_rfl
noncomputable def stkE (x : S3) : List Env := [x.gt.e, x.nx.e, x.s.s.sp.e, x.s.s.rd.e, x.s.s.s.law.e]
theorem frames_loop (L : Nat) (rt : Fm) (x : S3) : (gLoop L rt x).code.envs ++ envsOf (gLoop L rt x).below = rt.e :: stkE x := rfl
noncomputable abbrev keysSh (X : Lx) : List Nat := [X.io, X.ioD, X.self, X.sd]
theorem rt_not_fields {self : Nat} {Y : Rt} {qd : Bool} {es : Str} {te : Nat} {nc : NcT} : ∀ vs, (rtFrame self Y qd es te nc).data ≠ .fields vs := fun vs e => by cases nc <;> cases e
section
variable {w : World} {a b c : Bool} {s s1 : Shared} {X : Lx} {q tp tt tl te k₀ t0 B tp₀ tt₀ tl₀ : Nat} {q₀ ln₀ : Int} {st₀ st v₀ : Value} {tok₀ tok es : Str} {tr : List Nat} {h₀ ln : Int} {qd : Bool} {x : S3} {p : Pos} {R : Result → Shared → Prop} {Fr : List (Nat × Obj)}
theorem rt_err_tree {e : Nat} : ansT (rA (W3 w a b c) s B X q₀ tp₀ st₀ tok₀ tt₀ ln₀ tl₀ x p) (.error (.ref e)) = leftOT e (envRT (B + 4)) (kNext (rtDef.2.1.drop 3) (envRT (B + 4))) := by cases a <;> kernel_rfl
theorem rt_err_κ : cfκ (rA (W3 w a b c) s B X q₀ tp₀ st₀ tok₀ tt₀ ln₀ tl₀ x p)  = [] := by cases a <;> kernel_rfl
noncomputable def RtErr (w : World) (R : Result → Shared → Prop) (X : Lx) (Fr : List (Nat × Obj)) (s : Shared) : Prop :=
 ∀ s' f e tp ts tok tt (ln : Int) tl tk, HpW w s'.heap (lSh X (X.buf.length : Nat) tp (.str ⟨#[39]⟩ ts) tok tt ln tl ++ reS f Fr) → Beh (keysSh X ++ Fr.map (·.1)) s s' → Dead s s' → Fly w s s'.heap e (.type "ValueError") [.str sNoC tk] .none → R (.error (.ref e)) s'
theorem rt_err {q₀ ts₀ tn n : Nat} {cm : Bool} (H : HpW (W3 w a b c) s.heap (lSh X q₀ tp₀ (.str ⟨#[32]⟩ ts₀) ⟨#[]⟩ tt₀ ln₀ tl₀ ++ Fr)) (hN : NoFields Fr) (hF : FrOk (stkE x) Fr) (hcm : X.cm = cmS cm) (hnl : X.nl = .str ⟨#[10]⟩ tn) (hf : X.buf.length ≤ 1000) (hq : q₀ ≤ X.buf.length)
   (hL : lexF cm n .sp (X.buf.cps.toList.drop q₀) = .err) (hR : RtErr (W3 w a b c) R X Fr s) :
   wpCode (model prg (W3 w a b c)) (gRT X.self x) R p s := by
 refine rt_start (Hp.part H) fun B s1 p1 hB h1 b1 => ?_
 have dB : s.heap.get? (B + 4) = none := Heap.get?_none_of_le (Nat.le_of_eq hB)
 refine loop_spec (s₀ := s1) hcm hnl hf n .sp s1 p1 q₀ tp₀ ts₀ tt₀ ln₀ tl₀ ⟨#[32]⟩ (s.toks + 2) none h1 (fun h => nomatch h) (fun _ => rfl) hq (Nat.zero_le _) (Beh.refl _ _) ?_
 rw [hL]
 intro t qd es sL pL tp ts tt ln tl te h k v hHL bL
 have hd : X.buf.cps.toList.drop X.buf.length = [] := List.drop_of_length_le (by have : X.buf.length = X.buf.cps.size := rfl; simp; omega)
 refine t_q_eof hHL hf (Nat.le_refl _) (nxt_nil hd) fun sA B2 s2 p2 tp1 tk HA hB2 bA b2 H2 => ?_
 rw [adv_nil hd (Nat.le_refl _)] at HA H2
 have bT : Beh (keysT X (rtY (W3 w a b c) s B)) s sA := Beh.trans (Beh.trans (Beh.widen b1 (bs := keysT X (rtY (W3 w a b c) s B)) (by intro z hz; simp only [List.mem_cons, List.not_mem_nil, or_false] at hz ⊢; rcases hz with h | h | h | h <;> simp [h])) bL fun _ z => z) bA fun _ z => z
 have dA : Dead s sA := dead_of bT fun a ha => hp_live HA ha
 have bT2 : Beh (keysT X (rtY (W3 w a b c) s B)) s s2 := Beh.trans bT b2 fun _ z => z
 have dN : ∀ j, s.heap.get? (B2 + 5 + j) = none := fun j => dA _ (Heap.get?_none_of_le (by omega))
 have HJ := Hp.join2 (as := keysT X (rtY (W3 w a b c) s B)) H H2 bT2 (fun a ha => by
   simp only [List.mem_cons, List.not_mem_nil, or_false] at ha
   simp only [List.map_cons, List.map_nil, List.mem_cons, List.not_mem_nil, or_false]
   rcases ha with h | h | h | h | h
   · simp [h]
   · simp [h]
   · simp [h]
   · simp [h]
   · right; rw [h]; exact dB) (fun y hy => by
   simp only [List.cons_append, List.nil_append, List.mem_cons, List.not_mem_nil, or_false] at hy
   simp only [List.map_cons, List.map_nil, List.mem_cons, List.not_mem_nil, or_false]
   rcases hy with h | h | h | h | h | h | h
   · simp [h]
   · simp [h]
   · simp [h]
   · simp [h]
   · right; rw [h]; exact dB
   · right; rw [h]; exact dN 1
   · right; rw [h]; exact dN 2)
 have e1 := HJ.own (B2 + 6, excNew "ValueError" (B2 + 7)) (by simp)
 have e2 := HJ.own (B2 + 7, tup1 (.str sNoC (sA.toks + 14))) (by simp)
 have l0 := HA.big
 have l1 : 797 ≤ B2 + 6 := by omega
 have l2 : 797 ≤ B2 + 7 := by omega
 have S : Std (W3 w a b c) (lSh X (X.buf.length : Nat) tp1 (.str ⟨#[39]⟩ ts) ⟨⟨t⟩⟩ tt ln tl) ((B + 4, rtFrame X.self (rtY (W3 w a b c) s B) true es te (some (h, k, .str ⟨#[]⟩ tk))) :: Fr) (keysSh X ++ (B + 4) :: Fr.map (·.1)) s s2 (envRT (B + 4) :: stkE x) := by
   refine ⟨?_, hN.cons rt_not_fields, Beh.widen bT2 ?_, dA.trans (dead_of b2 fun a ha => hp_live H2 (by simp only [List.map_cons, List.map_nil, List.cons_append, List.nil_append] at ha ⊢; simp only [List.mem_cons, List.not_mem_nil, or_false] at ha ⊢; rcases ha with h | h | h | h | h <;> simp [h])), ?_, ?_, hF.cons (by rw [rt_kind]; exact fun h => nomatch h) rfl⟩
   · refine Hp.sub ?_ HJ
     exact ((((((List.Sublist.refl Fr).cons _).cons _).cons_cons _).cons_cons _).cons_cons _).cons_cons _ |>.cons_cons _
   · intro z hz
     simp only [List.mem_cons, List.not_mem_nil, or_false] at hz
     simp only [List.cons_append, List.nil_append, List.mem_cons]
     rcases hz with h | h | h | h | h
     · simp [h]
     · simp [h]
     · simp [h]
     · simp [h]
     · right; right; right; right; left; exact h
   · intro y hy
     rcases List.mem_cons.mp hy with rfl | hy
     · simp
     · exact List.mem_append_right _ (.tail _ (List.mem_map_of_mem hy))
   · intro y hy
     refine hp_live H ?_
     simp only [List.mem_cons, List.not_mem_nil, or_false] at hy
     simp only [List.map_append, List.map_cons, List.map_nil, List.cons_append, List.nil_append, List.mem_cons]
     rcases hy with h | h | h | h <;> simp [h]
 refine mn_notedF S rfl rfl ⟨_, _, B2 + 7, e1, rfl, rfl, rfl, rfl, ⟨_, _, e2, rfl, rfl⟩,⟨dN 1, dN 2⟩, l1, l2⟩ fun h' f hFl => ?_
 show Mn _ _ _ _ _ _ _
 rw [rt_err_tree, rt_err_κ]
 have S2 := S.next hFl S.hF
 refine mn_leftO S2 rfl hFl.2.2.2 (fun h'' f2 hF2 => ?_) _
 obtain ⟨z1, z2, z3, z4⟩ := hF2
 rw [reS_reS] at z1
 refine hR _ f2 (B2 + 6) tp1 ts ⟨⟨t⟩⟩ tt ln tl (sA.toks + 14) (Hp.sub ?_ z1) (Beh.drop z2 fun a ha => ?_) z3 z4
 · exact ((((List.Sublist.refl (reS f2 Fr)).cons _).cons_cons _).cons_cons _).cons_cons _ |>.cons_cons _
 · rcases List.mem_append.mp ha with h | h
   · exact .inl (List.mem_append_left _ h)
   · rcases List.mem_cons.mp h with h | h
     · exact .inr (by rw [h]; exact dB)
     · exact .inl (List.mem_append_right _ h)
end
end Mine
end
section
namespace Mine
open PySem PySem.W
section
variable {w : World} {s s1 s2 : Shared} {A Ac1 Ac K Fr : List (Nat × Obj)} {L e : Nat} {fo : Obj} {cls : Value} {args : List Value} {env : Env} {outer : List Env} {f : Nat → Array (Option Value)} {h' : Heap}
theorem thru_pre (H : HpW w s.heap (A ++ Fr)) (h1 : HpW w s1.heap (Ac1 ++ K ++ [(L, fo)])) (b1 : Beh (A.map (·.1)) s s1) (hk : (Ac1 ++ K).map (·.1) = A.map (·.1)) (hL : s.heap.get? L = none) : HpW w s1.heap (Ac1 ++ K ++ ((L, fo) :: Fr)) := by
 have z := Hp.join2 H h1 b1 (fun a ha => .inl ha) fun x hx => by
   rcases List.mem_append.mp hx with hx | hx
   · left; rw [← hk]; exact List.mem_map_of_mem hx
   · right; rw [List.mem_singleton.mp hx]; exact hL
 rw [List.append_assoc] at z
 exact z
theorem thru_call (H : HpW w s1.heap (Ac1 ++ K ++ ((L, fo) :: Fr))) : HpW w s1.heap (Ac1 ++ ((L, fo) :: Fr)) :=
 Hp.sub (by rw [List.append_assoc]; exact (List.Sublist.refl _).append (List.sublist_append_right _ _)) H
theorem thru (H : HpW w s.heap (A ++ Fr)) (H1 : HpW w s1.heap (Ac1 ++ K ++ ((L, fo) :: Fr))) (b1 : Beh (A.map (·.1)) s s1) (hk : (Ac1 ++ K).map (·.1) = A.map (·.1)) (hc : Ac.map (·.1) = Ac1.map (·.1)) (hL : s.heap.get? L = none)
   (hN : NoFields Fr) (hF : FrOk outer Fr) (hfo : ∀ vs, fo.data ≠ .fields vs) (hkd : env.scope.kind ≠ .module) (hf : env.frame = some L)
   (z1 : HpW w s2.heap (Ac ++ reS f ((L, fo) :: Fr))) (z2 : Beh (Ac1.map (·.1) ++ ((L, fo) :: Fr).map (·.1)) s1 s2) (z3 : Dead s1 s2) :
   Std w (Ac ++ K) (reS f ((L, fo) :: Fr)) (A.map (·.1) ++ ((L, fo) :: Fr).map (·.1)) s s2 (env :: outer) := by
 have hkA : ∀ x ∈ K, x.1 ∈ A.map (·.1) := fun x hx => by rw [← hk]; exact List.mem_map_of_mem (List.mem_append_right _ hx)
 have d1 : Dead s s1 := dead_of b1 fun a ha => by
   rw [← hk] at ha
   exact hp_live H1 (by rw [List.map_append]; exact List.mem_append_left _ ha)
 have H1' : HpW w s1.heap ((Ac1 ++ ((L, fo) :: Fr)) ++ K) := by
   refine ⟨H1.top, fun x hx => H1.own x ?_, ?_, fun x hx => H1.low x ?_, H1.big⟩
   · simp only [List.mem_append] at hx ⊢; rcases hx with (h | h) | h <;> simp [h]
   · refine List.Perm.nodup (l := (Ac1 ++ K ++ ((L, fo) :: Fr)).map (·.1)) ?_ H1.sep
     refine List.Perm.map _ ?_
     rw [List.append_assoc, List.append_assoc]
     exact List.Perm.append_left _ List.perm_append_comm
   · simp only [List.mem_append] at hx ⊢; rcases hx with (h | h) | h <;> simp [h]
 have z := Hp.join2 H1' z1 z2 (fun a ha => by left; rw [List.map_append]; exact ha) fun x hx => by
   left
   rw [List.map_append]
   rcases List.mem_append.mp hx with hx | hx
   · exact List.mem_append_left _ (hc ▸ List.mem_map_of_mem hx)
   · exact List.mem_append_right _ (reS_keys f ((L, fo) :: Fr) ▸ List.mem_map_of_mem hx)
 refine ⟨?_, (hN.cons hfo).re f, ?_, d1.trans z3, ?_, fun x hx => ?_, (hF.cons hkd hf).re f⟩
 · refine ⟨z.top, fun x hx => z.own x ?_, ?_, fun x hx => z.low x ?_, z.big⟩
   · simp only [List.mem_append] at hx ⊢; rcases hx with (h | h) | h <;> simp [h]
   · refine List.Perm.nodup (l := (Ac ++ reS f ((L, fo) :: Fr) ++ K).map (·.1)) ?_ z.sep
     refine List.Perm.map _ ?_
     rw [List.append_assoc, List.append_assoc]
     exact List.Perm.append_left _ List.perm_append_comm
   · simp only [List.mem_append] at hx ⊢; rcases hx with (h | h) | h <;> simp [h]
 · refine Beh.trans (Beh.widen b1 fun a ha => List.mem_append_left _ ha) z2 fun a ha => ?_
   rcases List.mem_append.mp ha with h | h
   · refine List.mem_append_left _ ?_
     rw [← hk, List.map_append]
     exact List.mem_append_left _ h
   · exact List.mem_append_right _ h
 · intro x hx
   exact List.mem_append_right _ (reS_keys f ((L, fo) :: Fr) ▸ List.mem_map_of_mem hx)
 · refine hp_live H (a := x.1) ?_
   rw [List.map_append, ← hk]
   refine List.mem_append_left _ ?_
   rw [List.map_append, ← hc, ← List.map_append]
   exact List.mem_map_of_mem hx
theorem thru_end (hL : s.heap.get? L = none) {fl : Value} {f' : Nat → Array (Option Value)} (F : Flown w (Ac ++ K) (reS f ((L, fo) :: Fr)) (A.map (·.1) ++ ((L, fo) :: Fr).map (·.1)) s s2 e cls args fl h' f') :
   HpW w h' (Ac ++ K ++ reS f' Fr) ∧ Beh (A.map (·.1) ++ Fr.map (·.1)) s { s2 with heap := h' } ∧ Dead s { s2 with heap := h' } ∧ Fly w s h' e cls args fl := by
 obtain ⟨z1, z2, z3, z4⟩ := F
 rw [reS_reS] at z1
 refine ⟨Hp.sub ((List.Sublist.refl _).append ((List.Sublist.refl (reS f' Fr)).cons _)) z1, Beh.drop z2 fun a ha => ?_, z3, z4⟩
 rcases List.mem_append.mp ha with h | h
 · exact .inl (List.mem_append_left _ h)
 · rcases List.mem_cons.mp h with h | h
   · exact .inr (by rw [h]; exact hL)
   · exact .inl (List.mem_append_right _ h)
end
end Mine
end
section
namespace Mine
open PySem PySem.W
noncomputable def stkN (nx : Fm) (y : S2) : List Env := [nx.e, y.s.sp.e, y.s.rd.e, y.s.s.law.e]
noncomputable def stkY (y : S2) : List Env := [y.s.sp.e, y.s.rd.e, y.s.s.law.e]
theorem gt_kind' (L : Nat) : (envGT L).scope.kind = .function := by kernel_rfl
theorem gt_kind (L : Nat) : (envGT L).scope.kind ≠ .module := by rw [gt_kind']; exact fun h => nomatch h
theorem nx_kind' (L : Nat) : (envNX L).scope.kind = .function := by kernel_rfl
theorem nx_kind (L : Nat) : (envNX L).scope.kind ≠ .module := by rw [nx_kind']; exact fun h => nomatch h
theorem gt_not_fields {w : World} {self t : Nat} : ∀ vs, (gtFrame w self t).data ≠ .fields vs := fun vs e => by cases e
noncomputable def nxFrameN (w : World) (self t t2 : Nat) : Obj := ⟨.type "frame", none, .dict #[⟨reduceHash (w.params.strHash #[115,101,108,102]), .str ⟨#[115,101,108,102]⟩ t, .ref self⟩,⟨reduceHash (w.params.strHash #[116,111,107,101,110]), .str ⟨#[116,111,107,101,110]⟩ t2,.none⟩] 2, #[]⟩
noncomputable def tup0 : Obj := ⟨.type "tuple", none, .seq #[] 0, #[]⟩
section
variable {w : World} {a b c : Bool} {s s1 : Shared} {X : Lx} {q tp tt tl B tp₀ tt₀ tl₀ : Nat} {q₀ ln₀ : Int} {st₀ st : Value} {tok₀ tok : Str} {ln : Int} {nx : Fm} {y : S2} {p : Pos} {R : Result → Shared → Prop} {Fr : List (Nat × Obj)}
theorem gt_err_tree {e : Nat} : ansT (rG (W3 w a b c) s B X q₀ tp₀ st₀ tok₀ tt₀ ln₀ tl₀ nx y p) (.error (.ref e)) = leftT e (envGT (B + 6)) := by cases a <;> kernel_rfl
theorem gt_err_κ : cfκ (rG (W3 w a b c) s B X q₀ tp₀ st₀ tok₀ tt₀ ln₀ tl₀ nx y p) = [] := by cases a <;> kernel_rfl
theorem gt_err_Γ : cfΓ (rG (W3 w a b c) s B X q₀ tp₀ st₀ tok₀ tt₀ ln₀ tl₀ nx y p) = ⟨.func gtDef.2.1 (envGT (B + 6)), none, none, nx.c :: y.l, none⟩ := by cases a <;> kernel_rfl
theorem nx_err_tree {e : Nat} : ansT (rN (W3 w a b c) s B X q₀ tp₀ st₀ tok₀ tt₀ ln₀ tl₀ y p) (.error (.ref e)) = leftT e (envNX (B + 6)) := by cases a <;> kernel_rfl
theorem nx_err_κ : cfκ (rN (W3 w a b c) s B X q₀ tp₀ st₀ tok₀ tt₀ ln₀ tl₀ y p) = [] := by cases a <;> kernel_rfl
theorem nx_err_Γ : cfΓ (rN (W3 w a b c) s B X q₀ tp₀ st₀ tok₀ tt₀ ln₀ tl₀ y p) = ⟨.func nxDef.2.1 (envNX (B + 6)), none, none, y.l, none⟩ := by cases a <;> kernel_rfl
noncomputable def GtErr (w : World) (R : Result → Shared → Prop) (X : Lx) (Fr : List (Nat × Obj)) (s : Shared) : Prop :=
 ∀ s' f e tp ts tok tt (ln : Int) tl tk, HpW w s'.heap (lG X (X.buf.length : Nat) tp (.str ⟨#[39]⟩ ts) tok tt ln tl ++ reS f Fr) → Beh (keysG X ++ Fr.map (·.1)) s s' → Dead s s' → Fly w s s'.heap e (.type "ValueError") [.str sNoC tk] .none → R (.error (.ref e)) s'
theorem gt_err {q₀ ts₀ tn n : Nat} {cm : Bool} (H : HpW (W3 w a b c) s.heap (lG X q₀ tp₀ (.str ⟨#[32]⟩ ts₀) ⟨#[]⟩ tt₀ ln₀ tl₀ ++ Fr)) (hN : NoFields Fr) (hF : FrOk (stkN nx y) Fr) (hcm : X.cm = cmS cm) (hnl : X.nl = .str ⟨#[10]⟩ tn) (hf : X.buf.length ≤ 1000) (hq : q₀ ≤ X.buf.length)
   (hL : lexF cm n .sp (X.buf.cps.toList.drop q₀) = .err) (hR : GtErr (W3 w a b c) R X Fr s) :
   wpCode (model prg (W3 w a b c)) (gGT X.self nx y) R p s := by
 refine gt_start (Hp.part H) fun B s1 p1 hB h1 b1 => ?_
 have dB : s.heap.get? (B + 6) = none := Heap.get?_none_of_le (Nat.le_of_eq hB)
 have H1 := thru_pre (Ac1 := lSh X q₀ tp₀ (.str ⟨#[32]⟩ ts₀) ⟨#[]⟩ tt₀ ln₀ tl₀) (K := [(X.pb, dqObj), (X.fs, dqObj)]) (fo := gtFrame (W3 w a b c) X.self s.toks) H h1 b1 rfl dB
 refine rt_err (thru_call H1) (hN.cons gt_not_fields) (hF.cons (gt_kind _) rfl) hcm hnl hf hq hL ?_
 intro s2 f e tp ts tok tt ln tl tk z1 z2 z3 z4
 show Mn _ _ _ _ _ _ _
 rw [gt_err_tree, gt_err_κ, gt_err_Γ]
 have S := thru (env := envGT (B + 6)) (outer := stkN nx y) H H1 b1 rfl (by rfl) dB hN hF gt_not_fields (gt_kind _) rfl z1 z2 z3
 refine mn_leftN S rfl rfl (z4.mono (dead_of b1 fun a ha => hp_live h1 (by simp only [List.map_append, List.mem_append]; grind))) fun h' f' F => ?_
 obtain ⟨y1, y2, y3, y4⟩ := thru_end dB F
 exact hR _ f' e tp ts tok tt ln tl tk y1 y2 y3 y4
theorem nx_err {q₀ ts₀ tn n : Nat} {cm : Bool} (H : HpW (W3 w a b c) s.heap (lG X q₀ tp₀ (.str ⟨#[32]⟩ ts₀) ⟨#[]⟩ tt₀ ln₀ tl₀ ++ Fr)) (hN : NoFields Fr) (hF : FrOk (stkY y) Fr) (hcm : X.cm = cmS cm) (hnl : X.nl = .str ⟨#[10]⟩ tn) (hf : X.buf.length ≤ 1000) (hq : q₀ ≤ X.buf.length)
   (hL : lexF cm n .sp (X.buf.cps.toList.drop q₀) = .err) (hR : GtErr (W3 w a b c) R X Fr s) :
   wpCode (model prg (W3 w a b c)) (gNX X.self y) R p s := by
 refine nx_start (Hp.part H) fun B s1 p1 hB h1 b1 => ?_
 have dB : s.heap.get? (B + 6) = none := Heap.get?_none_of_le (Nat.le_of_eq hB)
 have H1 := thru_pre (Ac1 := lG X q₀ tp₀ (.str ⟨#[32]⟩ ts₀) ⟨#[]⟩ tt₀ ln₀ tl₀) (K := []) (fo := gtFrame (W3 w a b c) X.self s.toks) H h1 b1 rfl dB
 refine gt_err (thru_call H1) (hN.cons gt_not_fields) (hF.cons (nx_kind _) rfl) hcm hnl hf hq hL ?_
 intro s2 f e tp ts tok tt ln tl tk z1 z2 z3 z4
 show Mn _ _ _ _ _ _ _
 rw [nx_err_tree, nx_err_κ, nx_err_Γ]
 have S := thru (env := envNX (B + 6)) (outer := stkY y) H H1 b1 rfl (by rfl) dB hN hF gt_not_fields (nx_kind _) rfl z1 z2 z3
 refine mn_leftN S rfl rfl (z4.mono (dead_of b1 fun a ha => hp_live h1 (by simp only [List.map_append, List.mem_append]; grind))) fun h' f' F => ?_
 obtain ⟨y1, y2, y3, y4⟩ := thru_end dB F
 exact hR _ f' e tp ts tok tt ln tl tk y1 y2 y3 y4
noncomputable def NxStop (w : World) (R : Result → Shared → Prop) (X : Lx) (Fr : List (Nat × Obj)) (s : Shared) (q : Nat) (st : Option Str) : Prop :=
 ∀ s' f e tp ts tt (ln : Int) tl, HpW w s'.heap (lG X q tp (stV st ts) ⟨#[]⟩ tt ln tl ++ reS f Fr) → Beh (keysG X ++ Fr.map (·.1)) s s' → Dead s s' → Fly w s s'.heap e (.type "StopIteration") [] .none → R (.error (.ref e)) s'
theorem nx_n {q : Nat} (H0 : HpW (W3 w a b c) s.heap (lG X q₀ tp₀ st₀ tok₀ tt₀ ln₀ tl₀ ++ Fr)) (hN : NoFields Fr) (hF : FrOk (stkY y) Fr) (H : HpW (W3 w a b c) s1.heap (lG X q tp st tok tt ln tl ++ nxC X (W3 w a b c) s B)) (hB : s.heap.objs.size = B + 6) (b1 : Beh (keysG X) s s1)
   (hR : ∀ s' f e, HpW (W3 w a b c) s'.heap (lG X q tp st tok tt ln tl ++ reS f Fr) → Beh (keysG X ++ Fr.map (·.1)) s s' → Dead s s' → Fly (W3 w a b c) s s'.heap e (.type "StopIteration") [] .none → R (.error (.ref e)) s') :
   Mn (model prg (W3 w a b c)) R (cfΓ (rN (W3 w a b c) s B X q₀ tp₀ st₀ tok₀ tt₀ ln₀ tl₀ y p)) (cfp (rN (W3 w a b c) s B X q₀ tp₀ st₀ tok₀ tt₀ ln₀ tl₀ y p)) (cfκ (rN (W3 w a b c) s B X q₀ tp₀ st₀ tok₀ tt₀ ln₀ tl₀ y p)) (ansT (rN (W3 w a b c) s B X q₀ tp₀ st₀ tok₀ tt₀ ln₀ tl₀ y p) (.ok (.ret .none))) s1 := by
 have dB : s.heap.get? (B + 6) = none := Heap.get?_none_of_le (Nat.le_of_eq hB)
 have d1 : Dead s s1 := dead_of b1 fun a ha => hp_live H (by simp only [List.map_append, List.mem_append]; grind)
 refine sn_at H 76 51466736674420776835929682885547575967959999542454560171728308806306743742919 [] [0,1,2,3,4,5,6,8,9]
   (fun B2 => [ioObj X.ioD, ioDict X.Hi X.Ki X.buf X.tb X.nl q tp X.epi, shObj X.sd, sdDict X st tok tt ln tl, dqObj, dqObj, nxFrameN (W3 w a b c) X.self s.toks s1.toks, excNew "StopIteration" (B2 + 9), tup0])
   (fun _ => ⟨.func nxDef.2.1 (envNX (B + 6)), none, none, y.l, none⟩) (fun B2 => leftT (B2 + 8) (envNX (B + 6))) dsN ?_ (by decide) ?_ ?_ ?_ ?_
 · kernel_rfl
 · cases a <;> (intro B2; kernel_rfl)
 · cases a <;> (intro B2; kernel_rfl)
 · cases a <;> (intro B2; kernel_rfl)
 · intro B2 s2 p2 hB2 h2 b2
   have h2' : HpW (W3 w a b c) s2.heap (lG X q tp st tok tt ln tl ++ [(B + 6, nxFrameN (W3 w a b c) X.self s.toks s1.toks), (B2 + 8, excNew "StopIteration" (B2 + 9)), (B2 + 9, tup0)]) := h2
   have hB2' : s1.heap.objs.size = B2 + 7 := hB2
   have dN : ∀ j, s.heap.get? (B2 + 7 + j) = none := fun j => d1 _ (Heap.get?_none_of_le (by omega))
   have b2' : Beh (keysG X ++ [B + 6]) s1 s2 := b2
   have bA : Beh (keysG X ++ [B + 6]) s s2 := Beh.trans (Beh.widen b1 fun z hz => List.mem_append_left _ hz) b2' fun _ z => z
   have HJ := Hp.join2 (as := keysG X ++ [B + 6]) H0 h2' bA (fun z hz => by
     simp only [List.map_cons, List.map_nil]; simp only [List.mem_append] at hz
     rcases hz with h | h
     · exact .inl h
     · exact .inr (by rw [List.mem_singleton.mp h]; exact dB)) (fun z hz => by
     rcases List.mem_append.mp hz with h | h
     · exact .inl (by have := List.mem_map_of_mem (f := (·.1)) h; exact this)
     · simp only [List.mem_cons, List.not_mem_nil, or_false] at h
       rcases h with h | h | h
       · exact .inr (by rw [h]; exact dB)
       · exact .inr (by rw [h]; exact dN 1)
       · exact .inr (by rw [h]; exact dN 2))
   have e1 := HJ.own (B2 + 8, excNew "StopIteration" (B2 + 9)) (by simp)
   have e2 := HJ.own (B2 + 9, tup0) (by simp)
   have l0 := H.big
   have l1 : 797 ≤ B2 + 8 := by omega
   have l2 : 797 ≤ B2 + 9 := by omega
   have S : Std (W3 w a b c) (lG X q tp st tok tt ln tl) ((B + 6, nxFrameN (W3 w a b c) X.self s.toks s1.toks) :: Fr) (keysG X ++ (B + 6) :: Fr.map (·.1)) s s2 (envNX (B + 6) :: stkY y) := by
     refine ⟨Hp.sub ?_ HJ, hN.cons (fun vs e => by cases e), Beh.widen bA ?_, d1.trans (dead_of b2' fun z hz => hp_live h2' (by simp only [List.map_append, List.mem_append] at hz ⊢; grind)), ?_, ?_, hF.cons (nx_kind _) rfl⟩
     · rw [List.append_assoc]
       exact (List.Sublist.refl _).append (((List.Sublist.refl Fr).cons _ |>.cons _).cons_cons _)
     · intro z hz
       rcases List.mem_append.mp hz with h | h
       · exact List.mem_append_left _ h
       · exact List.mem_append_right _ (by rw [List.mem_singleton.mp h]; exact .head _)
     · intro z hz
       refine List.mem_append_right _ ?_
       rcases List.mem_cons.mp hz with rfl | hz
       · exact .head _
       · exact .tail _ (List.mem_map_of_mem hz)
     · intro z hz
       exact hp_live H0 (by rw [List.map_append]; exact List.mem_append_left _ (by have := List.mem_map_of_mem (f := (·.1)) hz; exact this))
   refine mn_leftF S rfl rfl ⟨_, _, B2 + 9, e1, rfl, rfl, rfl, rfl, ⟨_, _, e2, rfl, rfl⟩,⟨dN 1, dN 2⟩, l1, l2⟩ fun h' f F => ?_
   obtain ⟨z1, z2, z3, z4⟩ := F
   refine hR _ f (B2 + 8) (Hp.sub ((List.Sublist.refl _).append ((List.Sublist.refl (reS f Fr)).cons _)) z1) (Beh.drop z2 fun a ha => ?_) z3 z4
   rcases List.mem_append.mp ha with h | h
   · exact .inl (List.mem_append_left _ h)
   · rcases List.mem_cons.mp h with h | h
     · exact .inr (by rw [h]; exact dB)
     · exact .inl (List.mem_append_right _ h)
theorem nx_stop {q₀ ts₀ tn n : Nat} {cm st qd : Bool} {t l : List Nat} (H : HpW (W3 w a b c) s.heap (lG X q₀ tp₀ (.str ⟨#[32]⟩ ts₀) ⟨#[]⟩ tt₀ ln₀ tl₀ ++ Fr)) (hN : NoFields Fr) (hF : FrOk (stkY y) Fr) (hcm : X.cm = cmS cm) (hnl : X.nl = .str ⟨#[10]⟩ tn) (hf : X.buf.length ≤ 1000) (hq : q₀ ≤ X.buf.length)
   (hL : lexF cm n .sp (X.buf.cps.toList.drop q₀) = .brk st t qd l) (hv : rtRes t qd = none) (hR : NxStop (W3 w a b c) R X Fr s (X.buf.length - l.length) (if st then some ⟨#[32]⟩ else none)) :
   wpCode (model prg (W3 w a b c)) (gNX X.self y) R p s := by
 refine nx_start (Hp.part H) fun B s1 p1 hB h1 b1 => ?_
 refine gt_spec (Hp.part h1) hcm hnl hf hq hL ?_
 rw [hv]
 intro s2 tp ts tt ln tl tv h2 b2
 have H2 := Hp.join (A := lG X q₀ tp₀ (.str ⟨#[32]⟩ ts₀) ⟨#[]⟩ tt₀ ln₀ tl₀) (A' := lG X (X.buf.length - l.length : Nat) tp (stV (if st then some ⟨#[32]⟩ else none) ts) ⟨#[]⟩ tt ln tl) (C := nxC X (W3 w a b c) s B) h1 h2 b2 rfl
 exact nx_n H hN hF H2 hB (Beh.trans b1 b2 fun _ z => z) fun s' f e z1 z2 z3 z4 => hR s' f e tp ts tt ln tl z1 z2 z3 z4
theorem nx_stop2 {q₀ : Nat} (H : HpW (W3 w a b c) s.heap (lG X q₀ tp₀ .none ⟨#[]⟩ tt₀ ln₀ tl₀ ++ Fr)) (hN : NoFields Fr) (hF : FrOk (stkY y) Fr) (hf : X.buf.length ≤ 1000) (hq : q₀ = X.buf.length) (hR : NxStop (W3 w a b c) R X Fr s X.buf.length none) :
   wpCode (model prg (W3 w a b c)) (gNX X.self y) R p s := by
 refine nx_start (Hp.part H) fun B s1 p1 hB h1 b1 => ?_
 refine gt_none (Hp.part h1) hf hq ?_
 intro s2 tp ts tt ln tl tv h2 b2
 have H2 := Hp.join (A := lG X q₀ tp₀ .none ⟨#[]⟩ tt₀ ln₀ tl₀) (A' := lG X (X.buf.length : Nat) tp (stV none ts) ⟨#[]⟩ tt ln tl) (C := nxC X (W3 w a b c) s B) h1 h2 b2 rfl
 exact nx_n H hN hF H2 hB (Beh.trans b1 b2 fun _ z => z) fun s' f e z1 z2 z3 z4 => hR s' f e tp ts tt ln tl z1 z2 z3 z4
end
end Mine
end
section
namespace Mine
open PySem PySem.W
theorem Hp.perm {n₁ : Nat} {kt : PySem.W.X.KT} {h : Heap} {L L' : List (Nat × Obj)} (H : Hp n₁ kt h L) (q : List.Perm L L') : Hp n₁ kt h L' :=
 ⟨H.top, fun x hx => H.own x (q.mem_iff.mpr hx), (List.Perm.map _ q).nodup H.sep, fun x hx => H.low x (q.mem_iff.mpr hx), H.big⟩
theorem Hp.swap {n₁ : Nat} {kt : PySem.W.X.KT} {h : Heap} {A C : List (Nat × Obj)} (H : Hp n₁ kt h (A ++ C)) : Hp n₁ kt h (C ++ A) := H.perm List.perm_append_comm
theorem Hp.back {n₁ : Nat} {kt : PySem.W.X.KT} {h : Heap} {A C : List (Nat × Obj)} (H : Hp n₁ kt h (A ++ C)) : Hp n₁ kt h C := Hp.sub (List.sublist_append_right _ _) H
noncomputable def listO (a : List Value) (c : Nat) : Obj := ⟨.type "list", none, .seq ⟨a⟩ c, #[]⟩
noncomputable def excO (cls : String) (d : Option Addr) (vs : Array Value) (sl : Array (Option Value)) : Obj := ⟨.type cls, d, .fields vs, sl⟩
noncomputable abbrev cEx (u v : Nat) : Code := .builtin "list.extend.loop" ⟨[.ref u, .ref v, .none], []⟩
noncomputable abbrev gEx (u v : Nat) (q : Pos) (x : S1) : Ctx := ⟨cEx u v, none, none, (.builtin "type.__call__" ⟨[.type "list", .ref v], []⟩, q) :: x.l, none⟩
noncomputable def rE (w : World) (s : Shared) (B self sd u : Nat) (q : Pos) (x : S1) (p : Pos) : Option Out := rn w s B [(self, shObj sd)] 5 (gEx u self q x) p [] (den (cEx u self)) 1 []
inductive Toks (cm : Bool) : List Nat → List (List Nat) → Bool → Prop
 | stop {n l st t qd l'} : lexF cm n .sp l = .brk st t qd l' → rtRes t qd = none → Toks cm l [] false
 | last {n l t qd} : lexF cm n .sp l = .brk false t qd [] → rtRes t qd = some ⟨⟨t⟩⟩ → Toks cm l [t] false
 | more {n l t qd l' ts er} : lexF cm n .sp l = .brk true t qd l' → rtRes t qd = some ⟨⟨t⟩⟩ → (∃ k, l' = l.drop k) → Toks cm l' ts er → Toks cm l (t :: ts) er
 | err {n l} : lexF cm n .sp l = .err → Toks cm l [] true
noncomputable def IsStrs : List Value → List (List Nat) → Prop
 | [], [] => True
 | v :: vs, t :: ts => (∃ k, v = .str ⟨⟨t⟩⟩ k) ∧ IsStrs vs ts
 | _, _ => False
section
variable {w : World} {a b c : Bool} {s s1 : Shared} {self sd u e d B : Nat} {q : Pos} {x : S1} {p : Pos} {R : Result → Shared → Prop}
theorem ex_start (H : HpW (W3 w a b c) s.heap [(self, shObj sd)])
   (K : ∀ B s' p', HpW (W3 w a b c) s'.heap [(self, shObj sd)] → Beh [self] s s' →
     wpCode (model prg (W3 w a b c)) (gNX self ⟨x, u, self, p, q⟩) (fun r s'' => Mn (model prg (W3 w a b c)) R (cfΓ (rE (W3 w a b c) s B self sd u q x p)) (cfp (rE (W3 w a b c) s B self sd u q x p)) (cfκ (rE (W3 w a b c) s B self sd u q x p)) (ansT (rE (W3 w a b c) s B self sd u q x p) r) s'') p' s') :
   wpCode (model prg (W3 w a b c)) (gEx u self q x) R p s := by
 refine code_mn (c := cEx u self) rfl (sn_call H 5 1 [] [0] (fun B => [shObj sd]) (fun B => gNX self ⟨x, u, self, p, q⟩) true dsN ?_ (by decide) ?_ ?_)
 · kernel_rfl
 · cases a <;> (intro B; kernel_rfl)
 · exact fun B s' p' hB h1 b1 => K B s' p' h1 b1
noncomputable abbrev pushT (u : Nat) (v : Value) (c : Code) : Sem Fin := PySem.W.R.bindR (Fast.tw9418318071634752848 u fun y => Fast.tw2398297429280069960 y v) fun _ => Sem.pure (PySem.Fin.again c)
theorem mapSeq_list {arr : List Value} {cc : Nat} {v : Value} : Obj.mapSeq (·.push v) (listO arr cc) = listO (arr ++ [v]) (cc + 1) := by
 unfold listO Obj.mapSeq
 simp
theorem mn_push {M : Model} {Γ : Ctx} {arr : List Value} {cc : Nat} {v : Value} {c' : Code} (H : HpW w s1.heap [(u, listO arr cc)]) (hl : arr.length ≤ 1000) (hq : c'.quiet = true)
   (K : ∀ s', HpW w s'.heap [(u, listO (arr ++ [v]) (cc + 1))] → Beh [u] s1 s' → ∀ p', wpCode M (Γ.goto c') R p' s') : Mn M R Γ p [] (pushT u v c') s1 := by
 have ho := H.own (u, listO arr cc) (.head _)
 have e : pushT u v c' = Sem.bind (updateSeq u (·.push v)) fun _ => Sem.pure (PySem.Fin.again c') := by
   unfold pushT
   rw [← Fast.te9418318071634752848, ← PySem.W.R.bindR_eq, ← Fast.te2398297429280069960]
 rw [e]
 refine ⟨?_⟩
 show PySem.Sem.wp M Γ (Sem.bind (updateSeq u (·.push v)) fun _ => Sem.pure (PySem.Fin.again c')) _ _ p s1
 rw [Sem.wp_bind]
 have hs : arr.length ≤ sizeLine := Nat.le_trans hl (by decide)
 refine Sem.wp_mono M Γ _ (fun _ p' s' h' => ?_) (fun _ _ _ h' => h'.elim) p s1 ((wpAny_updateSeq (M := M) (A := arF Γ) (Q := fun _ s' => s' = { s1 with heap := s1.heap.update u (Obj.mapSeq (·.push v)) }) (E := fun _ _ => False) ho rfl rfl hs (by show ((⟨arr⟩ : Array Value).push v).size ≤ _; simp; omega)) Γ p (in_arF Γ))
 subst h'
 rw [Sem.wp_pure]
 refine ⟨hq, K { s1 with heap := s1.heap.update u (Obj.mapSeq (·.push v)) } ⟨fun z o hz e => ?_, fun z hz => ?_, by simp, fun z hz => ?_, ?_⟩ ⟨fun z o hz hn => ?_, rfl, rfl, rfl⟩ p'⟩
 · have h1 := H.low (u, listO arr cc) (.head _)
   exact (Heap.get?_update_other _ _ (fun q : u = z => h1 o (q ▸ hz) (q ▸ e))).trans (H.top z o hz e)
 · rw [List.mem_singleton.mp hz]
   show (s1.heap.update u (Obj.mapSeq (·.push v))).get? u = _
   rw [Heap.get?_update_self _ ho (by rw [mapSeq_list]; rfl), mapSeq_list]
 · rw [List.mem_singleton.mp hz]
   exact H.low (u, listO arr cc) (.head _)
 · show 797 ≤ (s1.heap.update u (Obj.mapSeq (·.push v))).objs.size
   rw [(Heap.SameBut.update s1.heap u (Obj.mapSeq (·.push v))).1]
   exact H.big
 · exact (Heap.get?_update_other _ _ (fun q : u = z => hn (by rw [q]; exact .head _))).trans hz
theorem ex_more {arr : List Value} {cc tv : Nat} {v : Str} (H : HpW (W3 w a b c) s1.heap [(u, listO arr cc)]) (hl : arr.length ≤ 1000)
   (K : ∀ s' p', HpW (W3 w a b c) s'.heap [(u, listO (arr ++ [.str v tv]) (cc + 1))] → Beh [u] s1 s' → wpCode (model prg (W3 w a b c)) (gEx u self q x) R p' s') :
   Mn (model prg (W3 w a b c)) R (cfΓ (rE (W3 w a b c) s B self sd u q x p)) (cfp (rE (W3 w a b c) s B self sd u q x p)) (cfκ (rE (W3 w a b c) s B self sd u q x p)) (ansT (rE (W3 w a b c) s B self sd u q x p) (.ok (.ret (.str v tv)))) s1 := by
 have e1 : ansT (rE (W3 w a b c) s B self sd u q x p) (.ok (.ret (.str v tv))) = pushT u (.str v tv) (cEx u self) := by cases a <;> kernel_rfl
 have e2 : cfκ (rE (W3 w a b c) s B self sd u q x p) = [] := by cases a <;> kernel_rfl
 have e3 : cfΓ (rE (W3 w a b c) s B self sd u q x p) = gEx u self q x := by cases a <;> kernel_rfl
 rw [e1, e2, e3]
 exact mn_push H hl (by kernel_rfl) fun s' h b p' => K s' p' h b
theorem ex_stop {d : Option Addr} {vs : Array Value} {sl : Array (Option Value)} (H : HpW (W3 w a b c) s1.heap [(e, excO "StopIteration" d vs sl)])
   (K : ∀ s', Beh [e] s1 s' → HpW (W3 w a b c) s'.heap [(e, excO "StopIteration" d vs sl)] → R (.ok (.ret .none)) s') :
   Mn (model prg (W3 w a b c)) R (cfΓ (rE (W3 w a b c) s B self sd u q x p)) (cfp (rE (W3 w a b c) s B self sd u q x p)) (cfκ (rE (W3 w a b c) s B self sd u q x p)) (ansT (rE (W3 w a b c) s B self sd u q x p) (.error (.ref e))) s1 := by
 refine sn_ok H 1 1 [] [0] (fun _ => [excO "StopIteration" d vs sl]) (fun _ => .ret .none) dsN ?_ (by decide) ?_ ?_
 · kernel_rfl
 · cases a <;> (intro B2; kernel_rfl)
 · exact fun B2 s2 _ h2 b2 => K s2 b2 h2
theorem ex_err {d : Option Addr} {vs : Array Value} {sl : Array (Option Value)} (H : HpW (W3 w a b c) s1.heap [(e, excO "ValueError" d vs sl)])
   (K : ∀ s', Beh [e] s1 s' → HpW (W3 w a b c) s'.heap [(e, excO "ValueError" d vs sl)] → R (.error (.ref e)) s') :
   Mn (model prg (W3 w a b c)) R (cfΓ (rE (W3 w a b c) s B self sd u q x p)) (cfp (rE (W3 w a b c) s B self sd u q x p)) (cfκ (rE (W3 w a b c) s B self sd u q x p)) (ansT (rE (W3 w a b c) s B self sd u q x p) (.error (.ref e))) s1 := by
 refine sn_err H 1 1 [] [0] (fun _ => [excO "ValueError" d vs sl]) (fun _ => .ref e) dsN ?_ (by decide) ?_ ?_
 · kernel_rfl
 · cases a <;> (intro B2; kernel_rfl)
 · exact fun B2 s2 _ h2 b2 => K s2 b2 h2
end
theorem Fly.hp {w : World} {s₀ : Shared} {h : Heap} {e : Nat} {cls : String} {args : List Value} {fl : Value} {L : List (Nat × Obj)} (F : Fly w s₀ h e (.type cls) args fl) (H : HpW w h L) : ∃ d vs sl, HpW w h [(e, excO cls d vs sl)] := by
 obtain ⟨oe, vs, T, oT, ts, t, h1, h2, h3, h4, h5, h6, h7, h8, h9, h10,⟨h11, h12, h13⟩, h14, h15, h16⟩ := F
 obtain ⟨c, d, dt, sl⟩ := oe
 dsimp only at h2 h3
 subst h2 h3
 exact ⟨d, vs, sl, H.top, fun x hx => by rw [List.mem_singleton.mp hx]; exact h1, by simp, fun x hx => by rw [List.mem_singleton.mp hx]; exact noTop_of h14, H.big⟩
theorem Fly.after {w : World} {s₀ s s' : Shared} {e : Nat} {cls : String} {args : List Value} {fl : Value} {d : Option Addr} {vs : Array Value} {sl : Array (Option Value)} (F : Fly w s₀ s.heap e (.type cls) args fl) (H : HpW w s.heap [(e, excO cls d vs sl)]) (B : Beh [e] s s') (H' : HpW w s'.heap [(e, excO cls d vs sl)]) : Fly w s₀ s'.heap e (.type cls) args fl := by
 obtain ⟨oe, vs', T, oT, ts, t, h1, h2, h3, h4, h5, h6, h7, h8, h9, h10,⟨h11, h12, h13⟩, h14, h15, h16⟩ := F
 have he := H'.own _ (.head _)
 have he0 := H.own _ (.head _)
 dsimp only at he he0
 have hee : oe = excO cls d vs sl := by rw [h1] at he0; injection he0
 obtain ⟨o, n, g1, g2, g3⟩ := h10
 have hte : t ≠ e := fun q => by
   rw [q, h1] at g1
   injection g1 with g1
   rw [← g1, h3] at g3
   cases g3
 exact ⟨oe, vs', T, oT, ts, t, by rw [hee]; exact he, h2, h3, h4, h5, h6, B.keep _ _ h7 (by simpa using h6), h8, h9,⟨o, n, B.keep _ _ g1 (by simpa using hte), g2, g3⟩,⟨h11, h12, h13⟩, h14, h15, h16⟩
noncomputable def stk1 (x : S1) : List Env := [x.sp.e, x.rd.e, x.s.law.e]
section
variable {w : World} {a b c : Bool} {s₀ : Shared} {X : Lx} {u tn : Nat} {cm : Bool} {q : Pos} {x : S1} {R : Result → Shared → Prop} {Fr : List (Nat × Obj)}
noncomputable abbrev keysE (X : Lx) (u : Nat) (Fr : List (Nat × Obj)) : List Nat := keysG X ++ Fr.map (·.1) ++ [u]
noncomputable def ExK (w : World) (R : Result → Shared → Prop) (X : Lx) (u : Nat) (Fr : List (Nat × Obj)) (s₀ : Shared) (arr : List Value) (ts : List (List Nat)) : Bool → Prop
 | false => ∀ s' f vs c', IsStrs vs ts → HpW w s'.heap (reS f Fr ++ [(u, listO (arr ++ vs) c')]) → Beh (keysE X u Fr) s₀ s' → Dead s₀ s' → R (.ok (.ret .none)) s'
 | true => ∀ s' f e tk, HpW w s'.heap (reS f Fr) → Beh (keysE X u Fr) s₀ s' → Dead s₀ s' → Fly w s₀ s'.heap e (.type "ValueError") [.str sNoC tk] .none → R (.error (.ref e)) s'
theorem lG_live {w : World} {X : Lx} {q tp tt tl : Nat} {st : Value} {tok : Str} {ln : Int} {h : Heap} {C : List (Nat × Obj)} (H : HpW w h (lG X q tp st tok tt ln tl ++ C)) : ∀ z ∈ keysG X, h.get? z ≠ none := fun z hz =>
 hp_live H (by rw [List.map_append]; exact List.mem_append_left _ hz)
theorem ex_fin {l : List Nat} {arr : List Value} {cc tp tt tl : Nat} {st₀ : Value} {ln : Int} {s s1 s2 : Shared} {q₁ B : Nat} {p : Pos} {f : Nat → Array (Option Value)} {e tp' ts' tt' tl' q' : Nat} {st' : Option Str} {ln' : Int} (hD : Dead s₀ s) (hB : Beh (keysE X u Fr) s₀ s)
   (H : HpW (W3 w a b c) s1.heap (lG X q₁ tp st₀ ⟨#[]⟩ tt ln tl ++ Fr ++ [(u, listO arr cc)])) (d1 : Dead s s1) (b1 : Beh [X.self] s s1)
   (z1 : HpW (W3 w a b c) s2.heap (lG X q' tp' (stV st' ts') ⟨#[]⟩ tt' ln' tl' ++ reS f Fr)) (z2 : Beh (keysG X ++ Fr.map (·.1)) s1 s2) (z3 : Dead s1 s2) (z4 : Fly (W3 w a b c) s1 s2.heap e (.type "StopIteration") [] .none)
   (K : ExK (W3 w a b c) R X u Fr s₀ arr [] false) :
   Mn (model prg (W3 w a b c)) R (cfΓ (rE (W3 w a b c) s B X.self X.sd u q x p)) (cfp (rE (W3 w a b c) s B X.self X.sd u q x p)) (cfκ (rE (W3 w a b c) s B X.self X.sd u q x p)) (ansT (rE (W3 w a b c) s B X.self X.sd u q x p) (.error (.ref e))) s2 := by
 have HJ := Hp.join2 H z1 z2 (fun z hz => .inl (by rw [List.map_append]; exact hz)) fun z hz => .inl (by
   have := List.mem_map_of_mem (f := (·.1)) hz
   rw [List.map_append, reS_keys] at this
   rw [List.map_append]; exact this)
 obtain ⟨d, vs, sl, he⟩ := z4.hp HJ
 refine ex_stop he fun s3 b3 h3 => ?_
 have de : ∀ z, s1.heap.get? z ≠ none → z ≠ e := fun z hz q => by
   obtain ⟨_, _, _, _, _, _, _, _, _, _, _, _, _, _, _, _, ⟨g, _⟩, _⟩ := z4
   exact hz (q ▸ g)
 have de2 : ∀ y ∈ (lG X q' tp' (stV st' ts') ⟨#[]⟩ tt' ln' tl' ++ reS f Fr) ++ [(u, listO arr cc)], y.1 ≠ e := fun y hy => de _ (hp_live H (by
   have := List.mem_map_of_mem (f := (·.1)) hy
   rw [List.map_append, List.map_append, reS_keys] at this
   rw [List.map_append, List.map_append]; exact this))
 have H3 : HpW (W3 w a b c) s3.heap ((lG X q' tp' (stV st' ts') ⟨#[]⟩ tt' ln' tl' ++ reS f Fr) ++ [(u, listO arr cc)]) :=
   ⟨h3.top, fun y hy => b3.keep _ _ (HJ.own y hy) (by simpa using de2 y hy), HJ.sep, HJ.low, h3.big⟩
 have d3 : Dead s1 s3 := fun z hz => by
   cases g : s1.heap.get? z with
   | none => rfl
   | some o =>
     exfalso
     have g2 : s2.heap.get? z ≠ none := fun q => by have := z3 z q; rw [g] at this; cases this
     cases g3 : s2.heap.get? z with
     | none => exact g2 g3
     | some o2 => rw [b3.keep _ _ g3 (by simpa using de z (by rw [g]; simp))] at hz; cases hz
 have bb : Beh (keysG X ++ Fr.map (·.1)) s1 s3 := by
   refine ⟨fun z o g hn => b3.keep _ _ (z2.keep z o g hn) (by simpa using de z (by rw [g]; simp)), b3.gens.trans z2.gens, b3.drawn.trans z2.drawn, b3.os.trans z2.os⟩
 refine K s3 f [] cc trivial ?_ (Beh.trans (Beh.trans hB b1 ?_) bb ?_) ((hD.trans d1).trans d3)
 · rw [List.append_nil]
   exact Hp.sub ((List.sublist_append_right _ _).append (List.Sublist.refl _)) H3
 · intro z hz
   rw [List.mem_singleton.mp hz]
   simp
 · intro z hz
   exact List.mem_append_left _ hz
theorem Hp.same {n₁ : Nat} {kt : PySem.W.X.KT} {s s' : Shared} {L : List (Nat × Obj)} {k : Nat} {o : Obj} (H : Hp n₁ kt s.heap L) (h1 : Hp n₁ kt s'.heap [(k, o)]) (hk : (k, o) ∈ L) (B : Beh [k] s s') : Hp n₁ kt s'.heap L :=
 ⟨h1.top, fun y hy => by
   by_cases e : y.1 = k
   · have h2 := h1.own (k, o) (.head _)
     have h3 := H.own y hy
     have h4 := H.own (k, o) hk
     dsimp only at h2 h4
     rw [e, h4] at h3
     rw [e, h2]
     exact h3
   · exact B.keep _ _ (H.own y hy) (by simpa using e), H.sep, H.low, h1.big⟩
theorem same_dead {w : World} {s s' : Shared} {k : Nat} {o : Obj} (h1 : HpW w s'.heap [(k, o)]) (B : Beh [k] s s') : Dead s s' := dead_of B fun z hz => hp_live h1 hz
theorem ex_none {arr : List Value} {cc tp tt tl : Nat} {ln : Int} {s : Shared} {p : Pos} (hf : X.buf.length ≤ 1000) (hN : NoFields Fr) (hF : FrOk (stk1 x) Fr) (hD : Dead s₀ s) (hB : Beh (keysE X u Fr) s₀ s)
   (H : HpW (W3 w a b c) s.heap (lG X (X.buf.length : Nat) tp .none ⟨#[]⟩ tt ln tl ++ Fr ++ [(u, listO arr cc)])) (K : ExK (W3 w a b c) R X u Fr s₀ arr [] false) :
   wpCode (model prg (W3 w a b c)) (gEx u X.self q x) R p s := by
 have hm : (X.self, shObj X.sd) ∈ (lG X (X.buf.length : Nat) tp .none ⟨#[]⟩ tt ln tl ++ Fr ++ [(u, listO arr cc)]) := by simp
 refine ex_start (Hp.sub (List.singleton_sublist.mpr hm) H) fun B s1 p1 h1 b1 => ?_
 have H1 := Hp.same H h1 hm b1
 exact nx_stop2 (Hp.part H1) hN hF hf rfl fun s2 f e tp' ts' tt' ln' tl' z1 z2 z3 z4 => ex_fin (l := []) hD hB H1 (same_dead h1 b1) b1 z1 z2 z3 z4 K
theorem IsStrs.cons {v : Value} {vs : List Value} {t : List Nat} {ts : List (List Nat)} {k : Nat} (h : IsStrs vs ts) (e : v = .str ⟨⟨t⟩⟩ k) : IsStrs (v :: vs) (t :: ts) := ⟨⟨k, e⟩, h⟩
theorem drop_back {buf : Str} {q₁ k : Nat} {l l' : List Nat} (h : buf.cps.toList.drop q₁ = l) (hl : l' = l.drop k) : buf.cps.toList.drop (buf.length - l'.length) = l' := by
 subst h hl
 have e : buf.length = buf.cps.toList.length := by simp [Str.length]
 rw [List.drop_drop, List.length_drop, e]
 by_cases g : q₁ + k ≤ buf.cps.toList.length
 · rw [show buf.cps.toList.length - (buf.cps.toList.length - (q₁ + k)) = q₁ + k from by omega]
 · rw [List.drop_of_length_le (i := q₁ + k) (by omega), List.drop_of_length_le (by omega)]
theorem ex_spec (hcm : X.cm = cmS cm) (hnl : X.nl = .str ⟨#[10]⟩ tn) (hf : X.buf.length ≤ 1000) (hN : NoFields Fr) (hF : FrOk (stk1 x) Fr) {l : List Nat} {ts : List (List Nat)} {er : Bool} (T : Toks cm l ts er) :
   ∀ (s : Shared) (p : Pos) (q₁ tp ts₀ tt : Nat) (ln : Int) (tl : Nat) (arr : List Value) (cc : Nat), X.buf.cps.toList.drop q₁ = l → q₁ ≤ X.buf.length → arr.length + ts.length ≤ 1000 → Dead s₀ s → Beh (keysE X u Fr) s₀ s →
     HpW (W3 w a b c) s.heap (lG X q₁ tp (.str ⟨#[32]⟩ ts₀) ⟨#[]⟩ tt ln tl ++ Fr ++ [(u, listO arr cc)]) → ExK (W3 w a b c) R X u Fr s₀ arr ts er → wpCode (model prg (W3 w a b c)) (gEx u X.self q x) R p s := by
 have hm : ∀ (q₁ tp : Nat) (st : Value) (tt : Nat) (ln : Int) (tl : Nat) (arr : List Value) (cc : Nat), (X.self, shObj X.sd) ∈ (lG X q₁ tp st ⟨#[]⟩ tt ln tl ++ Fr ++ [(u, listO arr cc)]) := by intros; simp
 have tail : ∀ {s s1 s2 s3 : Shared} {q₁ tp tt tl q₂ tp₂ tt₂ tl₂ cc : Nat} {st₁ st₂ : Value} {ln ln₂ : Int} {arr arr₂ : List Value} {cc₂ : Nat}, Dead s₀ s → Beh (keysE X u Fr) s₀ s →
     HpW (W3 w a b c) s1.heap (lG X q₁ tp st₁ ⟨#[]⟩ tt ln tl ++ Fr ++ [(u, listO arr cc)]) → Dead s s1 → Beh [X.self] s s1 → HpW (W3 w a b c) s2.heap (lG X q₂ tp₂ st₂ ⟨#[]⟩ tt₂ ln₂ tl₂) → Beh (keysG X) s1 s2 →
     HpW (W3 w a b c) s3.heap [(u, listO arr₂ cc₂)] → Beh [u] s2 s3 → HpW (W3 w a b c) s3.heap (lG X q₂ tp₂ st₂ ⟨#[]⟩ tt₂ ln₂ tl₂ ++ Fr ++ [(u, listO arr₂ cc₂)]) ∧ Dead s₀ s3 ∧ Beh (keysE X u Fr) s₀ s3 := by
   intro s s1 s2 s3 q₁ tp tt tl q₂ tp₂ tt₂ tl₂ cc st₁ st₂ ln ln₂ arr arr₂ cc₂ hD hB H1 d1 b1 h2 b2 h3 b3
   rw [List.append_assoc] at H1
   have H2 := Hp.join H1 h2 b2 rfl
   rw [← List.append_assoc] at H2
   have H3 := (Hp.join (H2.swap) h3 b3 rfl).swap
   refine ⟨H3, ((hD.trans d1).trans (dead_of b2 fun z hz => hp_live h2 hz)).trans (dead_of b3 fun z hz => hp_live h3 hz), Beh.trans (Beh.trans (Beh.trans hB b1 ?_) b2 ?_) b3 ?_⟩
   · intro z hz; rw [List.mem_singleton.mp hz]; simp
   · intro z hz; exact List.mem_append_left _ (List.mem_append_left _ hz)
   · intro z hz; exact List.mem_append_right _ hz
 induction T with
 | @stop n l st t qd l' hL hv =>
   intro s p q₁ tp ts₀ tt ln tl arr cc hl hq ha hD hB H K
   refine ex_start (Hp.sub (List.singleton_sublist.mpr (hm ..)) H) fun B s1 p1 h1 b1 => ?_
   have H1 := Hp.same H h1 (hm ..) b1
   exact nx_stop (Hp.part H1) hN hF hcm hnl hf hq (hl ▸ hL) hv fun s2 f e tp' ts' tt' ln' tl' z1 z2 z3 z4 => ex_fin (l := []) hD hB H1 (same_dead h1 b1) b1 z1 z2 z3 z4 K
 | @last n l t qd hL hv =>
   intro s p q₁ tp ts₀ tt ln tl arr cc hl hq ha hD hB H K
   refine ex_start (Hp.sub (List.singleton_sublist.mpr (hm ..)) H) fun B s1 p1 h1 b1 => ?_
   have H1 := Hp.same H h1 (hm ..) b1
   refine nx_spec (Hp.part (Hp.part H1)) hcm hnl hf hq (hl ▸ hL) hv ?_
   intro s2 tp₂ ts₂ tt₂ ln₂ tl₂ tv h2 b2
   have hu : HpW (W3 w a b c) s2.heap [(u, listO arr cc)] := Hp.back (Hp.join2 H1 h2 b2 (fun z hz => .inl (by rw [List.map_append]; exact List.mem_append_left _ hz)) fun z hz => .inl (by rw [List.map_append]; exact List.mem_append_left _ (List.mem_map_of_mem (f := (·.1)) hz)))
   refine ex_more hu (by simp at ha; omega) fun s3 p3 h3 b3 => ?_
   obtain ⟨H3, D3, B3⟩ := tail hD hB H1 (same_dead h1 b1) b1 h2 b2 h3 b3
   refine ex_none hf hN hF D3 B3 H3 fun s' f vs c' hs H' B' D' => ?_
   refine K s' f ([.str ⟨⟨t⟩⟩ tv] ++ vs) c' (IsStrs.cons hs rfl) ?_ B' D'
   rw [← List.append_assoc]; exact H'
 | @more n l t qd l' ts er hL hv hk T ih =>
   intro s p q₁ tp ts₀ tt ln tl arr cc hl hq ha hD hB H K
   refine ex_start (Hp.sub (List.singleton_sublist.mpr (hm ..)) H) fun B s1 p1 h1 b1 => ?_
   have H1 := Hp.same H h1 (hm ..) b1
   refine nx_spec (Hp.part (Hp.part H1)) hcm hnl hf hq (hl ▸ hL) hv ?_
   intro s2 tp₂ ts₂ tt₂ ln₂ tl₂ tv h2 b2
   have hu : HpW (W3 w a b c) s2.heap [(u, listO arr cc)] := Hp.back (Hp.join2 H1 h2 b2 (fun z hz => .inl (by rw [List.map_append]; exact List.mem_append_left _ hz)) fun z hz => .inl (by rw [List.map_append]; exact List.mem_append_left _ (List.mem_map_of_mem (f := (·.1)) hz)))
   have ha' : arr.length + (ts.length + 1) ≤ 1000 := ha
   refine ex_more hu (by omega) fun s3 p3 h3 b3 => ?_
   obtain ⟨H3, D3, B3⟩ := tail hD hB H1 (same_dead h1 b1) b1 h2 b2 h3 b3
   obtain ⟨k, hk⟩ := hk
   rw [if_pos rfl] at H3
   refine ih s3 p3 (X.buf.length - l'.length) tp₂ ts₂ tt₂ ln₂ tl₂ (arr ++ [Value.str ⟨⟨t⟩⟩ tv]) (cc + 1) (drop_back hl hk) (Nat.sub_le _ _) (by simp; omega) D3 B3 H3 ?_
   cases er with
   | false =>
     intro s' f vs c' hs H' B' D'
     refine K s' f ([.str ⟨⟨t⟩⟩ tv] ++ vs) c' (IsStrs.cons hs rfl) ?_ B' D'
     rw [← List.append_assoc]; exact H'
   | true => exact K
 | @err n l hL =>
   intro s p q₁ tp ts₀ tt ln tl arr cc hl hq ha hD hB H K
   refine ex_start (Hp.sub (List.singleton_sublist.mpr (hm ..)) H) fun B s1 p1 h1 b1 => ?_
   have H1 := Hp.same H h1 (hm ..) b1
   refine nx_err (Hp.part H1) hN hF hcm hnl hf hq (hl ▸ hL) fun s2 f e tp' ts' tok' tt' ln' tl' tk z1 z2 z3 z4 => ?_
   obtain ⟨d, vs, sl, he⟩ := z4.hp z1
   refine ex_err he fun s3 b3 h3 => ?_
   have de : ∀ z, s1.heap.get? z ≠ none → z ≠ e := fun z hz g => by
     obtain ⟨_, _, _, _, _, _, _, _, _, _, _, _, _, _, _, _, ⟨g', _⟩, _⟩ := z4
     exact hz (g ▸ g')
   have hfr : ∀ y ∈ reS f Fr, y.1 ≠ e := fun y hy => de _ (hp_live H1 (by
     have := List.mem_map_of_mem (f := (·.1)) hy
     rw [reS_keys] at this
     rw [List.map_append, List.map_append]; exact List.mem_append_left _ (List.mem_append_right _ this)))
   refine K s3 f e tk ?_ ?_ ?_ ((z4.mono (hD.trans (same_dead h1 b1))).after he b3 h3)
   · have hz := Hp.back z1
     exact ⟨h3.top, fun y hy => b3.keep _ _ (hz.own y hy) (by simpa using hfr y hy), hz.sep, hz.low, h3.big⟩
   · refine Beh.trans (Beh.trans hB b1 ?_) (⟨fun z o g hn => b3.keep _ _ (z2.keep z o g hn) (by simpa using de z (by rw [g]; simp)), b3.gens.trans z2.gens, b3.drawn.trans z2.drawn, b3.os.trans z2.os⟩ : Beh (keysG X ++ Fr.map (·.1)) s1 s3) ?_
     · intro z hz; rw [List.mem_singleton.mp hz]; simp
     · intro z hz; exact List.mem_append_left _ hz
   · refine (hD.trans (same_dead h1 b1)).trans fun z hz => ?_
     cases g : s1.heap.get? z with
     | none => rfl
     | some o =>
       exfalso
       cases g3 : s2.heap.get? z with
       | none => have := z3 z g3; rw [g] at this; cases this
       | some o2 => rw [b3.keep _ _ g3 (by simpa using de z (by rw [g]; simp))] at hz; cases hz
end
end Mine
end
section
namespace Mine
open PySem PySem.W
open PySem.Sem (wp finPost)
noncomputable def pΓ (κ : List Kf) : Ctx := match κ with | f :: _ => f.Γ | [] => ⟨.builtin "" {}, none, none, [], none⟩
noncomputable def pp (κ : List Kf) : Pos := match κ with | f :: _ => f.p | [] => ⟨0,0,0,0⟩
noncomputable def pκ (κ : List Kf) : List Kf := match κ with | _ :: κ => κ | [] => []
noncomputable def pT (κ : List Kf) (r : Result) : Sem Fin := match κ with | f :: _ => f.k r | [] => .unsupported ""
theorem ret_mn {M : Model} {R : Result → Shared → Prop} {κ : List Kf} {r : Result} {s : Shared} (h : κ.isEmpty = false) (H : Mn M R (pΓ κ) (pp κ) (pκ κ) (pT κ r) s) : RetK M R κ r s := by
 cases κ with
 | nil => cases h
 | cons f κ => exact H.out
section
variable {w : World} {R : Result → Shared → Prop} {Γ : Ctx} {p : Pos} {κ : List Kf} {t : Sem Fin} {s : Shared} {L : List (Nat × Obj)}
theorem chk_κ {js : List Nat} {r : Option Out} {os : List (Option Obj)} {v : Vw} {b : Bool} (e : chk js r = owed r os v b) : (cfκ r).isEmpty = b := by
 obtain ⟨o, rfl, _, h⟩ := vw_of e
 exact h
theorem sv_goto {vs : List (Value × Value)} (H : HpW w s.heap L) (n tr : Nat) (ds : List (Bool × Bool)) (js : List Nat) (os : Nat → List Obj) (Γ' : Nat → Ctx) (hds : ∀ d ∈ ds, d.1 = d.2) (hw : wholeT L 0 .nil = true) (hjs : js.Nodup)
   (e : ∀ B, chk js (rnv w vs s B L n Γ p κ t tr ds) = owed (rnv w vs s B L n Γ p κ t tr ds) ((os B).map some) (.again (Γ' B)) false)
   (fin : ∀ B s' p', s.heap.objs.size = B + L.length → HpW w s'.heap (zipA (vW w s B L) js (os B)) → Beh (L.map (·.1)) s s' →
     wpCode (model prg w) (Γ' B) (fun r s'' => Mn (model prg w) R (pΓ (cfκ (rnv w vs s B L n Γ p κ t tr ds))) (pp (cfκ (rnv w vs s B L n Γ p κ t tr ds))) (pκ (cfκ (rnv w vs s B L n Γ p κ t tr ds))) (pT (cfκ (rnv w vs s B L n Γ p κ t tr ds)) r) s'') p' s') (hvs : ∀ v ∈ vs, v.1 = v.2) :
   Mn (model prg w) R Γ p κ t s :=
 ⟨sg (hvs := hvs) H n tr ds js os (fun B => .again (Γ' B)) false hds hw hjs e fun B s' hB h1 h2 => by
   have z := fin B s' (cfp (rnv w vs s B L n Γ p κ t tr ds)) hB h1 h2
   have zk := chk_κ (e B)
   obtain ⟨o, eo, hv, hk⟩ := vw_of (e B)
   rw [eo] at z zk ⊢
   obtain ⟨c, ht, hq, hΓ⟩ := vw_again hv
   show Means (model prg w) R o.Γ o.p o.κ o.t s'
   rw [ht]
   show wp _ _ (Sem.pure (PySem.Fin.again c)) _ _ _ _
   rw [Sem.wp_pure]
   refine ⟨hq, ?_⟩
   rw [hΓ] at z
   exact wpCode_mono (fun r s'' h => ret_mn zk h) z⟩
theorem sn_goto (H : HpW w s.heap L) (n tr : Nat) (ds : List (Bool × Bool)) (js : List Nat) (os : Nat → List Obj) (Γ' : Nat → Ctx) (hds : ∀ d ∈ ds, d.1 = d.2) (hw : wholeT L 0 .nil = true) (hjs : js.Nodup)
   (e : ∀ B, chk js (rn w s B L n Γ p κ t tr ds) = owed (rn w s B L n Γ p κ t tr ds) ((os B).map some) (.again (Γ' B)) false)
   (fin : ∀ B s' p', s.heap.objs.size = B + L.length → HpW w s'.heap (zipA (vW w s B L) js (os B)) → Beh (L.map (·.1)) s s' →
     wpCode (model prg w) (Γ' B) (fun r s'' => Mn (model prg w) R (pΓ (cfκ (rn w s B L n Γ p κ t tr ds))) (pp (cfκ (rn w s B L n Γ p κ t tr ds))) (pκ (cfκ (rn w s B L n Γ p κ t tr ds))) (pT (cfκ (rn w s B L n Γ p κ t tr ds)) r) s'') p' s') :
   Mn (model prg w) R Γ p κ t s := sv_goto H n tr ds js os Γ' hds hw hjs e fin (fun _ h => nomatch h)
end
theorem Hp.keep {n₁ : Nat} {kt : PySem.W.X.KT} {s s' : Shared} {L : List (Nat × Obj)} (H : Hp n₁ kt s.heap L) (H' : Hp n₁ kt s'.heap []) (B : Beh [] s s') : Hp n₁ kt s'.heap L :=
 ⟨H'.top, fun x hx => B.keep _ _ (H.own x hx) (by simp), H.sep, H.low, H'.big⟩
theorem Hp.nil {n₁ : Nat} {kt : PySem.W.X.KT} {h : Heap} {L : List (Nat × Obj)} (H : Hp n₁ kt h L) : Hp n₁ kt h [] := Hp.sub (List.nil_sublist _) H
theorem Dead.refl (s : Shared) : Dead s s := fun _ h => h
theorem dead_nil {s s' : Shared} (B : Beh [] s s') : Dead s s' := dead_of B fun a ha => by simp at ha
theorem Hp.new {n₁ : Nat} {kt : PySem.W.X.KT} {s s' : Shared} {N C : List (Nat × Obj)} (H : Hp n₁ kt s.heap C) (H' : Hp n₁ kt s'.heap N) (B : Beh [] s s') (hN : ∀ x ∈ N, s.heap.get? x.1 = none) : Hp n₁ kt s'.heap (N ++ C) :=
 Hp.join2 (A := []) H H' B (fun a ha => by simp at ha) fun x hx => .inr (hN x hx)
theorem sn_callT {w : World} {R : Result → Shared → Prop} {Γ : Ctx} {p : Pos} {κ : List Kf} {t : Sem Fin} {s : Shared} {L : List (Nat × Obj)} (H : HpW w s.heap L) (n tr : Nat) (ds : List (Bool × Bool)) (js : List Nat) (os : Nat → List Obj) (Γ' : Nat → Ctx) (b : Bool) (m : Nat) (hds : ∀ d ∈ ds, d.1 = d.2) (hw : wholeT L 0 .nil = true) (hjs : js.Nodup)
   (e : ∀ B, chk js (rnv w [] s B L n Γ p κ t tr ds) = owed (rnv w [] s B L n Γ p κ t tr ds) ((os B).map some) (.call (Γ' B)) b) (hm : ∀ B, tiO (rnv w [] s B L n Γ p κ t tr ds) = m)
   (fin : ∀ B s' p', s.heap.objs.size = B + L.length → HpW w s'.heap (zipA (vW w s B L) js (os B)) → Beh (L.map (·.1)) s s' → s'.toks = s.toks + m →
     wpCode (model prg w) (Γ' B) (fun r s'' => Mn (model prg w) R (cfΓ (rnv w [] s B L n Γ p κ t tr ds)) (cfp (rnv w [] s B L n Γ p κ t tr ds)) (cfκ (rnv w [] s B L n Γ p κ t tr ds)) (ansT (rnv w [] s B L n Γ p κ t tr ds) r) s'') p' s') :
   Mn (model prg w) R Γ p κ t s :=
 ⟨sgt (hvs := fun _ h => nomatch h) H n tr ds js os (fun B => .call (Γ' B)) b hds hw hjs e fun B s' hB h1 h2 h3 => by
   have z := fin B s' (cfp (rnv w [] s B L n Γ p κ t tr ds)) hB h1 h2 (hm B ▸ h3)
   obtain ⟨o, eo, hv, hk⟩ := vw_of (e B)
   rw [eo] at z ⊢
   obtain ⟨c, hd, g, l, k, ht, hΓ⟩ := vw_call hv
   have za : ∀ r, ansT (some o) r = k r := fun r => by unfold ansT; simp only [ht]
   simp only [za] at z
   show Means (model prg w) R o.Γ o.p o.κ o.t s'
   rw [ht]
   show wp _ _ (Sem.call c hd g l k) _ _ _ _
   rw [Sem.wp_call, ← hΓ]
   exact wpCode_mono (fun _ _ h => h.out) z⟩
theorem sn_gotoT {w : World} {R : Result → Shared → Prop} {Γ : Ctx} {p : Pos} {κ : List Kf} {t : Sem Fin} {s : Shared} {L : List (Nat × Obj)} (H : HpW w s.heap L) (n tr : Nat) (ds : List (Bool × Bool)) (js : List Nat) (os : Nat → List Obj) (Γ' : Nat → Ctx) (m : Nat) (hds : ∀ d ∈ ds, d.1 = d.2) (hw : wholeT L 0 .nil = true) (hjs : js.Nodup)
   (e : ∀ B, chk js (rnv w [] s B L n Γ p κ t tr ds) = owed (rnv w [] s B L n Γ p κ t tr ds) ((os B).map some) (.again (Γ' B)) false) (hm : ∀ B, tiO (rnv w [] s B L n Γ p κ t tr ds) = m)
   (fin : ∀ B s' p', s.heap.objs.size = B + L.length → HpW w s'.heap (zipA (vW w s B L) js (os B)) → Beh (L.map (·.1)) s s' → s'.toks = s.toks + m →
     wpCode (model prg w) (Γ' B) (fun r s'' => Mn (model prg w) R (pΓ (cfκ (rnv w [] s B L n Γ p κ t tr ds))) (pp (cfκ (rnv w [] s B L n Γ p κ t tr ds))) (pκ (cfκ (rnv w [] s B L n Γ p κ t tr ds))) (pT (cfκ (rnv w [] s B L n Γ p κ t tr ds)) r) s'') p' s') :
   Mn (model prg w) R Γ p κ t s :=
 ⟨sgt (hvs := fun _ h => nomatch h) H n tr ds js os (fun B => .again (Γ' B)) false hds hw hjs e fun B s' hB h1 h2 h3 => by
   have z := fin B s' (cfp (rnv w [] s B L n Γ p κ t tr ds)) hB h1 h2 (hm B ▸ h3)
   have zk := chk_κ (e B)
   obtain ⟨o, eo, hv, hk⟩ := vw_of (e B)
   rw [eo] at z zk ⊢
   obtain ⟨c, ht, hq, hΓ⟩ := vw_again hv
   show Means (model prg w) R o.Γ o.p o.κ o.t s'
   rw [ht]
   show wp _ _ (Sem.pure (PySem.Fin.again c)) _ _ _ _
   rw [Sem.wp_pure]
   refine ⟨hq, ?_⟩
   rw [hΓ] at z
   exact wpCode_mono (fun r s'' h => ret_mn zk h) z⟩
theorem sv_swap {w : World} {R : Result → Shared → Prop} {Γ : Ctx} {p : Pos} {κ : List Kf} {t : Sem Fin} {s : Shared} {L : List (Nat × Obj)} {vs : List (Value × Value)} (H : HpW w s.heap L) (n tr : Nat) (ds : List (Bool × Bool)) (js : List Nat) (os : Nat → List Obj) (t1 t2 : Nat → Sem Fin) (b : Bool) (hds : ∀ d ∈ ds, d.1 = d.2) (hw : wholeT L 0 .nil = true) (hjs : js.Nodup)
   (e : ∀ B, chk js (rnv w vs s B L n Γ p κ t tr ds) = owed (rnv w vs s B L n Γ p κ t tr ds) ((os B).map some) .other b)
   (et : ∀ B, cft (rnv w vs s B L n Γ p κ t tr ds) = t1 B) (eq : ∀ B, t1 B = t2 B)
   (fin : ∀ B s', s.heap.objs.size = B + L.length → HpW w s'.heap (zipA (vW w s B L) js (os B)) → Beh (L.map (·.1)) s s' →
     Mn (model prg w) R (cfΓ (rnv w vs s B L n Γ p κ t tr ds)) (cfp (rnv w vs s B L n Γ p κ t tr ds)) (cfκ (rnv w vs s B L n Γ p κ t tr ds)) (t2 B) s') (hvs : ∀ v ∈ vs, v.1 = v.2) :
   Mn (model prg w) R Γ p κ t s :=
 ⟨sg (hvs := hvs) H n tr ds js os (fun _ => .other) b hds hw hjs e fun B s' hB h1 h2 => by
   have z := fin B s' hB h1 h2
   rw [← eq B, ← et B] at z
   exact z.out⟩
noncomputable def mkF {α : Type} (G : Bool → α) (x : Bool) : { F : Bool → α // F x = G x } := ⟨G, rfl⟩
theorem sn_swap {w : World} {R : Result → Shared → Prop} {Γ : Ctx} {p : Pos} {κ : List Kf} {t : Sem Fin} {s : Shared} {L : List (Nat × Obj)} (H : HpW w s.heap L) (n tr : Nat) (ds : List (Bool × Bool)) (js : List Nat) (os : Nat → List Obj) (t1 t2 : Nat → Sem Fin) (b : Bool) (hds : ∀ d ∈ ds, d.1 = d.2) (hw : wholeT L 0 .nil = true) (hjs : js.Nodup)
   (e : ∀ B, chk js (rn w s B L n Γ p κ t tr ds) = owed (rn w s B L n Γ p κ t tr ds) ((os B).map some) .other b)
   (et : ∀ B, cft (rn w s B L n Γ p κ t tr ds) = t1 B) (eq : ∀ B, t1 B = t2 B)
   (fin : ∀ B s', s.heap.objs.size = B + L.length → HpW w s'.heap (zipA (vW w s B L) js (os B)) → Beh (L.map (·.1)) s s' →
     Mn (model prg w) R (cfΓ (rn w s B L n Γ p κ t tr ds)) (cfp (rn w s B L n Γ p κ t tr ds)) (cfκ (rn w s B L n Γ p κ t tr ds)) (t2 B) s') :
   Mn (model prg w) R Γ p κ t s := sv_swap H n tr ds js os t1 t2 b hds hw hjs e et eq fin (fun _ h => nomatch h)
noncomputable def extT (self it result : Value) : { F : Bool → Sem Fin // F (Builtin.List.listSameRef self it) = Fast.tw8938917530802602619 self it result } := by
 delta Fast.tw8938917530802602619
 generalize Builtin.List.listSameRef self it = x
 apply mkF
theorem extT_ne {u v : Nat} (h : u ≠ v) (r : Value) : Fast.tw8938917530802602619 (.ref u) (.ref v) r = (extT (.ref u) (.ref v) r).1 false := by
 refine (extT (.ref u) (.ref v) r).2.symm.trans (congrArg (extT (.ref u) (.ref v) r).1 ?_)
 exact beq_false_of_ne h
theorem Fly.keep {w : World} {s₀ s s' : Shared} {e : Nat} {cls : Value} {args : List Value} {fl : Value} (F : Fly w s₀ s.heap e cls args fl) (B : Beh [] s s') : Fly w s₀ s'.heap e cls args fl := by
 obtain ⟨oe, vs, T, oT, ts, t, h1, h2, h3, h4, h5, h6, h7, h8, h9,⟨o, n, g1, g2, g3⟩, h11⟩ := F
 exact ⟨oe, vs, T, oT, ts, t, B.keep _ _ h1 (by simp), h2, h3, h4, h5, h6, B.keep _ _ h7 (by simp), h8, h9,⟨o, n, B.keep _ _ g1 (by simp), g2, g3⟩, h11⟩
theorem beh_new {s s1 s2 : Shared} {as l : List Nat} {n : Nat} (hB : s.heap.objs.size = n) (b1 : Beh as s s1) (b2 : Beh l s1 s2) (hl : ∀ z : Nat, z ∈ l → z ∈ as ∨ n ≤ z) : Beh as s s2 :=
 ⟨fun b o e hn => b2.keep b o (b1.keep b o e hn) fun q => (hl b q).elim hn fun h => Nat.not_lt.mpr h (hB ▸ Heap.lt_size e), b2.gens.trans b1.gens, b2.drawn.trans b1.drawn, b2.os.trans b1.os⟩
noncomputable def hs (w : World) (l : Array Nat) : Int := reduceHash (w.params.strHash l)
end Mine
end
section
namespace Mine
open PySem PySem.W
noncomputable def spDef : Dft := topDef 25
noncomputable def envSP (L : Nat) : Env := { scope := spDef.2.2, locals := L, globals := 3, cells := [], qual := ⟨#[115,112,108,105,116,46,60,108,111,99,97,108,115,62,46]⟩, func := some 757, code := .ref 756, frame := some L, builtins := 0 }
noncomputable abbrev cSP (buf : Str) (tb : Nat) (cm : Bool) : Code := .call (.ref 757) ⟨[.str buf tb, .bool cm], []⟩
noncomputable abbrev gSP (buf : Str) (tb : Nat) (cm : Bool) (s0 : S0) (rd : Fm) : Ctx := ⟨cSP buf tb cm, none, none, rd.c :: s0.l, none⟩
noncomputable def spHi (w : World) : Nat → Int
 | 0 => hs w #[95,83,116,114,105,110,103,73,79,95,95,110,101,119,108,105,110,101]
 | 1 => hs w #[95,83,116,114,105,110,103,73,79,95,95,98,117,102]
 | _ => hs w #[95,83,116,114,105,110,103,73,79,95,95,112,111,115]
noncomputable def spKi (n : Nat) : Nat → Nat
 | 0 => n + 19
 | 1 => n + 22
 | _ => n + 25
noncomputable def spHs (w : World) : Nat → Int
 | 0 => hs w #[105,110,115,116,114,101,97,109]
 | 1 => hs w #[105,110,102,105,108,101]
 | 2 => hs w #[112,111,115,105,120]
 | 3 => hs w #[101,111,102]
 | 4 => hs w #[99,111,109,109,101,110,116,101,114,115]
 | 5 => hs w #[119,111,114,100,99,104,97,114,115]
 | 6 => hs w #[119,104,105,116,101,115,112,97,99,101]
 | 7 => hs w #[119,104,105,116,101,115,112,97,99,101,95,115,112,108,105,116]
 | 8 => hs w #[113,117,111,116,101,115]
 | 9 => hs w #[101,115,99,97,112,101]
 | 10 => hs w #[101,115,99,97,112,101,100,113,117,111,116,101,115]
 | 11 => hs w #[115,116,97,116,101]
 | 12 => hs w #[112,117,115,104,98,97,99,107]
 | 13 => hs w #[108,105,110,101,110,111]
 | 14 => hs w #[100,101,98,117,103]
 | 15 => hs w #[116,111,107,101,110]
 | 16 => hs w #[102,105,108,101,115,116,97,99,107]
 | 17 => hs w #[115,111,117,114,99,101]
 | _ => hs w #[95,112,117,110,99,116,117,97,116,105,111,110,95,99,104,97,114,115]
noncomputable def spKs (n : Nat) : Nat → Nat
 | 0 => n + 36
 | 1 => n + 38
 | 2 => n + 40
 | 3 => n + 42
 | 4 => n + 45
 | 5 => n + 48
 | 6 => n + 57
 | 7 => n + 59
 | 8 => n + 62
 | 9 => n + 65
 | 10 => n + 68
 | 11 => n + 71
 | 12 => n + 73
 | 13 => n + 76
 | 14 => n + 79
 | 15 => n + 82
 | 16 => n + 84
 | 17 => n + 86
 | _ => n + 90
noncomputable def spCs (n : Nat) (cm : Bool) : Nat → Nat
 | 4 => match cm with | true => n + 43 | false => n + 96
 | 5 => n + 52
 | 6 => n + 55
 | 8 => n + 60
 | 9 => n + 63
 | 10 => n + 66
 | 14 => n + 77
 | 18 => n + 87
 | _ => 0
noncomputable def spX (w : World) (s : Shared) (B : Nat) (buf : Str) (tb : Nat) (cm : Bool) : Lx :=
 { io := B + 8, ioD := B + 7, self := B + 2, sd := B + 1, pb := B + 11, fs := B + 12, Hi := spHi w, Ki := spKi s.toks, Hs := spHs w, Ks := spKs s.toks, Cs := spCs s.toks cm, buf := buf, tb := tb, nl := .str ⟨#[10]⟩ 802, cm := cmS cm, epi := 3, eps := 19 }
noncomputable def spFrame (w : World) (s : Shared) (B : Nat) (buf : Str) (tb : Nat) (cm : Bool) : Obj := ⟨.type "frame", none, .dict #[⟨hs w #[115], .str ⟨#[115]⟩ s.toks, .str buf tb⟩,⟨hs w #[99,111,109,109,101,110,116,115], .str ⟨#[99,111,109,109,101,110,116,115]⟩ (s.toks + 1), .bool cm⟩,⟨hs w #[112,111,115,105,120], .str ⟨#[112,111,115,105,120]⟩ (s.toks + 2), .bool true⟩,⟨hs w #[108,101,120], .str ⟨#[108,101,120]⟩ (s.toks + 93), .ref (B + 2)⟩] 4, #[]⟩
noncomputable def spF (B : Nat) : Fm := ⟨spDef.2.1, envSP B, ⟨742,11,742,20⟩⟩
noncomputable def spN (cm : Bool) : Nat := match cm with | true => 1329 | false => 1357
noncomputable def spTr (cm : Bool) : Nat := match cm with | true => 37056594247880733648998259459428440907582280839055565086986214516494180362281091604571447068497716937899060934102131104664019877192321005996107019394438342844344524580575881447092358357831200096907415598568808070406530671673585100186841232936837516177300641692447653005439852437752744659786909756370926114395104056674194858273046658885618185594550213996442789439482121870384455894372735352966033256341989811303045130998214333715254750696625527048778619880588473437604769788727673230988692284638840003124461291905180735433835164540022659012067965724418414975050829220938378266774438763953173408326130679464460563935206736836956137858923843762563399233708787180390665371759723739882954826296273917082634585743804710483006833358072743722498232027427838418996909502188901210144894228713571623500092064976150296727153792241825125194291816913315180734086827233243267090756567745877756814879765669736555812362916965644269372198354473551560726285215331340411581580838254914498707341058608086411736055308823022156145507935777114711394615127911219602059570931545269603397170499509726688342794794371954916886472317401969162215480016856917015903054380879638543285795074910462771267755340498820491328620929392594631653849505380201537073283060731469023939190966701264685370899611936780962148657975118047299299656894994423104123450409459403346522059383256836282859572033120397962395522494636282852014542318944097189056587340615435227124785219625648071919390287338005686523066719234410287637217056252421819408361595062815620663288045863436288 | false => 769635351605083587629757864909940968881808855195808147468629269234916384394134704272723380388140856375163589718052986599610001400140502218752341803353088902366325593706204707141790945308818588349778086353863388137452159730860148899998530814680303457222323219188880247319576044850045329384371760153592835557005055825111066135808449806258155329452953137506183769848155934599733125487076431235789003739708762739157248290367412438359118619832723596144935614848946905893317498821956339577899434032203011803585005839890519500490639392233156029840375259300268717495289973043810249592018220904656348899899444569433666614118263631324535800593324763842664396179186484587027582626557031475714627925831782880503971912952340885124171475681659861083241842137800354002824650710167466575811689466255782497431971412242217163526944765709891710490327900477484551028336670522635817990530323118421740673164050344337660286708831005502625964048522791234849899239493524127054793323673511761568797263508628819753765988988010836197941000302778512518096751961936210465174156549871104123968938358435456774641209299534138291656930907077131105382497042369199542650102749709646737744294039865838914328267334398691247176401412543017866703035451098496201197335361587115345577354422855006463742920230464474714226790467939461498413895761877722940409802514630588910907174234336004946018517906887217898140463929964531533916645872348151023537966001278158195057123782905831039442181197257286242323729266959217047908969098804230902557137466110182989497286194958630816420357346335383963568759002890240
noncomputable def rSP1 (w : World) (s : Shared) (B : Nat) (buf : Str) (tb : Nat) (cm : Bool) (s0 : S0) (rd : Fm) (p : Pos) : Option Out :=
 rn w s B [] (spN cm) (gSP buf tb cm s0 rd) p [] (den (cSP buf tb cm)) (spTr cm) [(true, true), (false, false), (false, false), (false, false), (true, true), (true, true)]
noncomputable abbrev spL (w : World) (s : Shared) (B : Nat) (buf : Str) (tb : Nat) (cm : Bool) (n : Nat) : List (Nat × Obj) := lG (spX w s B buf tb cm) (0 : Nat) (s.toks + 23) (.str ⟨#[32]⟩ (s.toks + 69)) ⟨#[]⟩ (s.toks + 80) 1 (s.toks + 74) ++ [(B, spFrame w s B buf tb cm), (B + 13, listO [] n)]
noncomputable def rSP (w : World) (s : Shared) (B : Nat) (buf : Str) (tb : Nat) (cm : Bool) (s0 : S0) (rd : Fm) (p : Pos) (s1 : Shared) (B1 : Nat) : Option Out :=
 rn w s1 B1 (spL w s B buf tb cm 0) 46 (cfΓ (rSP1 w s B buf tb cm s0 rd p)) (cfp (rSP1 w s B buf tb cm s0 rd p)) (cfκ (rSP1 w s B buf tb cm s0 rd p)) ((extT (.ref (B + 13)) (.ref (B + 2)) .none).1 false) 208952959656795026418751545284655055129955611861941511941783747 []
theorem sp_kind' (L : Nat) : (envSP L).scope.kind = .function := by kernel_rfl
theorem sp_kind (L : Nat) : (envSP L).scope.kind ≠ .module := by rw [sp_kind']; exact fun h => nomatch h
section
variable {w : World} {a b c : Bool} {s : Shared} {buf : Str} {tb : Nat} {cm : Bool} {s0 : S0} {rd : Fm} {p : Pos} {R : Result → Shared → Prop} {B e B1 : Nat} {s1 s2 : Shared}
theorem sp_start (H : HpW (W3 w a b c) s.heap [])
   (K : ∀ (B : Nat) (s1 : Shared) (B1 : Nat) (s' : Shared) (p' : Pos), s.heap.objs.size = B → HpW (W3 w a b c) s'.heap (spL (W3 w a b c) s B buf tb cm 2) → Beh [] s s' →
     wpCode (model prg (W3 w a b c)) (gEx (B + 13) (B + 2) ⟨742,11,742,20⟩ ⟨s0, rd, spF B⟩) (fun r s'' => Mn (model prg (W3 w a b c)) R (pΓ (cfκ (rSP (W3 w a b c) s B buf tb cm s0 rd p s1 B1))) (pp (cfκ (rSP (W3 w a b c) s B buf tb cm s0 rd p s1 B1))) (pκ (cfκ (rSP (W3 w a b c) s B buf tb cm s0 rd p s1 B1))) (pT (cfκ (rSP (W3 w a b c) s B buf tb cm s0 rd p s1 B1)) r) s'') p' s') :
   wpCode (model prg (W3 w a b c)) (gSP buf tb cm s0 rd) R p s := by
 refine code_mn (c := cSP buf tb cm) rfl (sn_swap (js := [8,7,2,1,11,12,0,13]) (os := fun B => [ioObj (B + 7), ioDict (spHi (W3 w a b c)) (spKi s.toks) buf tb (.str ⟨#[10]⟩ 802) (0 : Nat) (s.toks + 23) 3, shObj (B + 1), sdDict (spX (W3 w a b c) s B buf tb cm) (.str ⟨#[32]⟩ (s.toks + 69)) ⟨#[]⟩ (s.toks + 80) 1 (s.toks + 74), dqObj, dqObj, spFrame (W3 w a b c) s B buf tb cm, listO [] 0])
   (t1 := fun B => Fast.tw8938917530802602619 (.ref (B + 13)) (.ref (B + 2)) .none) (t2 := fun B => (extT (.ref (B + 13)) (.ref (B + 2)) .none).1 false) (b := false) H (spN cm) (spTr cm) [(true, true), (false, false), (false, false), (false, false), (true, true), (true, true)] (hds := ?_) (hw := ?_) (hjs := by decide) (e := ?_) (et := ?_) (eq := fun B => extT_ne (by omega) _) (fin := ?_))
 · exact dsC rfl (dsC rfl (dsC rfl (dsC rfl (dsC rfl (dsC rfl dsN)))))
 · rfl
 · cases cm <;> cases a <;> (intro B; kernel_rfl)
 · cases cm <;> cases a <;> (intro B; kernel_rfl)
 intro B s1 hB h1 b1
 refine sn_goto (L := spL (W3 w a b c) s B buf tb cm 0) (js := [0,1,2,3,4,5,6,7]) (os := fun _ => (spL (W3 w a b c) s B buf tb cm 2).map (·.2)) (Γ' := fun _ => gEx (B + 13) (B + 2) ⟨742,11,742,20⟩ ⟨s0, rd, spF B⟩) h1 46 208952959656795026418751545284655055129955611861941511941783747 [] (hds := dsN) (hw := ?_) (hjs := by decide) (e := ?_) (fin := ?_)
 · kernel_rfl
 · cases cm <;> cases a <;> (intro B1; kernel_rfl)
 · intro B1 s2 p2 hB1 h2 b2
   refine K B s1 B1 s2 p2 hB h2 (beh_new (n := B) hB b1 b2 fun z q => ?_)
   have q' : z ∈ [B + 8, B + 7, B + 2, B + 1, B + 11, B + 12, B, B + 13] := q
   simp only [List.mem_cons, List.not_mem_nil, or_false] at q'
   omega
theorem sp_ok (H : HpW (W3 w a b c) s2.heap []) (hR : ∀ s', Beh [] s2 s' → HpW (W3 w a b c) s'.heap [] → R (.ok (.ret (.ref (B + 13)))) s') :
   Mn (model prg (W3 w a b c)) R (pΓ (cfκ (rSP (W3 w a b c) s B buf tb cm s0 rd p s1 B1))) (pp (cfκ (rSP (W3 w a b c) s B buf tb cm s0 rd p s1 B1))) (pκ (cfκ (rSP (W3 w a b c) s B buf tb cm s0 rd p s1 B1))) (pT (cfκ (rSP (W3 w a b c) s B buf tb cm s0 rd p s1 B1)) (.ok (.ret .none))) s2 := by
 refine sn_ok H 2 0 [] [] (fun _ => []) (fun _ => .ret (.ref (B + 13))) dsN rfl (by decide) ?_ ?_
 · cases cm <;> cases a <;> (intro B2; kernel_rfl)
 · exact fun B2 s3 _ h2 b2 => hR s3 b2 h2
theorem sp_err (H : HpW (W3 w a b c) s2.heap []) (hR : ∀ s' p', Beh [] s2 s' → HpW (W3 w a b c) s'.heap [] → Mn (model prg (W3 w a b c)) R ⟨.func spDef.2.1 (envSP B), none, none, rd.c :: s0.l, none⟩ p' [] (leftT e (envSP B)) s') :
   Mn (model prg (W3 w a b c)) R (pΓ (cfκ (rSP (W3 w a b c) s B buf tb cm s0 rd p s1 B1))) (pp (cfκ (rSP (W3 w a b c) s B buf tb cm s0 rd p s1 B1))) (pκ (cfκ (rSP (W3 w a b c) s B buf tb cm s0 rd p s1 B1))) (pT (cfκ (rSP (W3 w a b c) s B buf tb cm s0 rd p s1 B1)) (.error (.ref e))) s2 := by
 refine sn_at H 1 0 [] [] (fun _ => []) (fun _ => ⟨.func spDef.2.1 (envSP B), none, none, rd.c :: s0.l, none⟩) (fun _ => leftT e (envSP B)) dsN rfl (by decide) ?_ ?_ ?_ ?_
 · cases cm <;> cases a <;> (intro B2; kernel_rfl)
 · cases cm <;> cases a <;> (intro B2; kernel_rfl)
 · cases cm <;> cases a <;> (intro B2; kernel_rfl)
 · exact fun B2 s3 p2 _ h2 b2 => hR s3 p2 b2 h2
end
end Mine
end
section
namespace Mine
open PySem PySem.W
noncomputable def SpK (w : World) (R : Result → Shared → Prop) (Fr : List (Nat × Obj)) (s : Shared) (ts : List (List Nat)) : Bool → Prop
 | false => ∀ s' f u vs c', IsStrs vs ts → s.heap.get? u = none → HpW w s'.heap (reS f Fr ++ [(u, listO vs c')]) → Beh (Fr.map (·.1)) s s' → Dead s s' → R (.ok (.ret (.ref u))) s'
 | true => ∀ s' f e tk, HpW w s'.heap (reS f Fr) → Beh (Fr.map (·.1)) s s' → Dead s s' → Fly w s s'.heap e (.type "ValueError") [.str sNoC tk] .none → R (.error (.ref e)) s'
noncomputable def stkR (s0 : S0) (rd : Fm) : List Env := [rd.e, s0.law.e]
theorem sp_not_fields {w : World} {s : Shared} {B : Nat} {buf : Str} {tb : Nat} {cm : Bool} : ∀ vs, (spFrame w s B buf tb cm).data ≠ .fields vs := fun vs e => by cases e
theorem sp_new {w : World} {s : Shared} {B : Nat} {buf : Str} {tb n : Nat} {cm : Bool} (hB : s.heap.objs.size = B) : ∀ x ∈ spL w s B buf tb cm n, s.heap.get? x.1 = none := fun x hx => by
 have hx' := List.mem_map_of_mem (f := (·.1)) hx
 have q' : x.1 ∈ [B + 8, B + 7, B + 2, B + 1, B + 11, B + 12, B, B + 13] := hx'
 simp only [List.mem_cons, List.not_mem_nil, or_false] at q'
 exact Heap.get?_none_of_le (by omega)
theorem sp_spec {w : World} {a b c : Bool} {s : Shared} {buf : Str} {tb : Nat} {cm : Bool} {s0 : S0} {rd : Fm} {p : Pos} {R : Result → Shared → Prop} {Fr : List (Nat × Obj)} {ts : List (List Nat)} {er : Bool}
   (H : HpW (W3 w a b c) s.heap Fr) (hN : NoFields Fr) (hF : FrOk (stkR s0 rd) Fr) (hf : buf.length ≤ 1000) (hts : ts.length ≤ 1000) (T : Toks cm buf.cps.toList ts er) (hR : SpK (W3 w a b c) R Fr s ts er) :
   wpCode (model prg (W3 w a b c)) (gSP buf tb cm s0 rd) R p s := by
 refine sp_start H.nil fun B s1 B1 s2 p2 hB h1 b1 => ?_
 have H1 := Hp.new H h1 b1 (sp_new hB)
 have dB : ∀ j, s.heap.get? (B + j) = none := fun j => Heap.get?_none_of_le (by omega)
 have d1 : Dead s s2 := dead_nil b1
 have H2 : HpW (W3 w a b c) s2.heap (lG (spX (W3 w a b c) s B buf tb cm) (0 : Nat) (s.toks + 23) (.str ⟨#[32]⟩ (s.toks + 69)) ⟨#[]⟩ (s.toks + 80) 1 (s.toks + 74) ++ ((B, spFrame (W3 w a b c) s B buf tb cm) :: Fr) ++ [(B + 13, listO [] 2)]) := by
   refine H1.perm ?_
   rw [List.append_assoc, List.append_assoc]
   refine List.Perm.append_left _ ?_
   show List.Perm ((B, spFrame (W3 w a b c) s B buf tb cm) :: ([(B + 13, listO [] 2)] ++ Fr)) ((B, spFrame (W3 w a b c) s B buf tb cm) :: (Fr ++ [(B + 13, listO [] 2)]))
   exact List.Perm.cons _ List.perm_append_comm
 have drp : ∀ {s3 : Shared}, Beh (keysE (spX (W3 w a b c) s B buf tb cm) (B + 13) ((B, spFrame (W3 w a b c) s B buf tb cm) :: Fr)) s2 s3 → Beh (Fr.map (·.1)) s s3 := fun {s3} b3 => by
   refine beh_new (n := B) hB (b1.widen (by simp)) b3 fun z q => ?_
   have q' : z ∈ [B + 8, B + 7, B + 2, B + 1, B + 11, B + 12] ++ (B :: Fr.map (·.1)) ++ [B + 13] := q
   simp only [List.mem_append, List.mem_cons, List.not_mem_nil, or_false] at q'
   rcases q' with (q' | q' | q') | q'
   · right; omega
   · right; omega
   · left; exact q'
   · right; omega
 refine ex_spec (x := ⟨s0, rd, spF B⟩) (X := spX (W3 w a b c) s B buf tb cm) (s₀ := s2) (tn := 802) (Fr := (B, spFrame (W3 w a b c) s B buf tb cm) :: Fr) rfl rfl hf (hN.cons sp_not_fields) (FrOk.cons (env := envSP B) hF (sp_kind _) rfl) T s2 p2 0 (s.toks + 23) (s.toks + 69) (s.toks + 80) 1 (s.toks + 74) [] 2 rfl (Nat.zero_le _) (by simpa using hts) (Dead.refl _) (Beh.refl _ _) H2 ?_
 cases er with
 | false =>
   intro s3 f vs c' hs h3 b3 d3
   refine sp_ok h3.nil fun s4 b4 h4 => ?_
   have H4 := Hp.keep h3 h4 b4
   refine hR s4 f (B + 13) vs c' hs (dB 13) ?_ (Beh.trans (drp b3) b4 (by simp)) ((d1.trans d3).trans (dead_nil b4))
   exact Hp.sub (List.Sublist.append ((List.Sublist.refl (reS f Fr)).cons _) (List.Sublist.refl _)) H4
 | true =>
   intro s3 f e tk h3 b3 d3 z4
   refine sp_err h3.nil fun s4 p4 b4 h4 => ?_
   have H4 := Hp.keep h3 h4 b4
   have z5 : Fly (W3 w a b c) s s4.heap e (.type "ValueError") [.str sNoC tk] .none := (z4.mono d1).keep b4
   have S : Std (W3 w a b c) [] (reS f ((B, spFrame (W3 w a b c) s B buf tb cm) :: Fr)) (B :: Fr.map (·.1)) s s4 (envSP B :: stkR s0 rd) :=
     ⟨H4, (hN.cons sp_not_fields).re f, Beh.widen (Beh.trans (drp b3) b4 (by simp)) (fun z hz => List.mem_cons_of_mem _ hz), (d1.trans d3).trans (dead_nil b4), fun x hx => by
       have := List.mem_map_of_mem (f := (·.1)) hx
       rw [reS_keys] at this
       exact this, fun x hx => by simp at hx, (hF.cons (sp_kind _) rfl).re f⟩
   refine mn_leftN S rfl rfl z5 fun h' f' F => ?_
   obtain ⟨y1, y2, y3, y4⟩ := F
   rw [reS_reS] at y1
   refine hR _ f' e tk (Hp.sub ((List.Sublist.refl (reS f' Fr)).cons _) y1) (Beh.drop y2 fun z hz => ?_) y3 y4
   rcases List.mem_cons.mp hz with h | h
   · exact .inr (by rw [h]; exact dB 0)
   · exact .inl h
end Mine
end
section
namespace Mine
open PySem PySem.W
open PySem.Sem (wp finPost)
noncomputable def lrDef : Dft := topDef 32
noncomputable def envLR (L : Nat) : Env := { scope := lrDef.2.2, locals := L, globals := 3, cells := [], qual := ⟨#[95,108,97,119,95,114,101,97,100,46,60,108,111,99,97,108,115,62,46]⟩, func := some 789, code := .ref 788, frame := some L, builtins := 0 }
noncomputable abbrev cLR (buf : Str) (tb : Nat) (cm : Bool) : Code := .call (.ref 789) ⟨[.str buf tb, .bool cm], []⟩
noncomputable abbrev gLR (buf : Str) (tb : Nat) (cm : Bool) (s0 : S0) : Ctx := ⟨cLR buf tb cm, none, none, s0.l, none⟩
noncomputable def lrF (B : Nat) : Fm := ⟨lrDef.2.1, envLR B, ⟨790,15,790,34⟩⟩
noncomputable def lrFrame (w : World) (s : Shared) (buf : Str) (tb : Nat) (cm : Bool) (sl : Array (Option Value)) : Obj := ⟨.type "frame", none, .dict #[⟨hs w #[116,101,120,116], .str ⟨#[116,101,120,116]⟩ s.toks, .str buf tb⟩,⟨hs w #[114,101,109,97,114,107], .str ⟨#[114,101,109,97,114,107]⟩ (s.toks + 1), .bool cm⟩] 2, sl⟩
theorem lr_kind' (L : Nat) : (envLR L).scope.kind = .function := by kernel_rfl
theorem lr_kind (L : Nat) : (envLR L).scope.kind ≠ .module := by rw [lr_kind']; exact fun h => nomatch h
theorem lr_not_fields {w : World} {s : Shared} {buf : Str} {tb : Nat} {cm : Bool} {sl : Array (Option Value)} : ∀ vs, (lrFrame w s buf tb cm sl).data ≠ .fields vs := fun vs e => by cases e
noncomputable def hdsOf : Option Stmt → List ExceptHandler
 | some (.Try _ hs _ _ _) => hs
 | _ => []
noncomputable def lrHds : List ExceptHandler := hdsOf (nth lrDef.2.1 0)
noncomputable abbrev caughtT (e : Nat) (env : Env) (K : Unit → Sem Flow) (k : Flow → Sem Flow) : Sem Fin := PySem.W.R.bindR (PySem.W.R.onRaiseR (PySem.W.R.bindR (PySem.W.R.bindR (Fast.tw17872113653443481271 (.ref e) env) K) k) (Fast.tw9442747609961115081 env)) fR
noncomputable abbrev afterT (env : Env) (K : Sem Flow) (k : Flow → Sem Flow) : Sem Fin := PySem.W.R.bindR (PySem.W.R.onRaiseR (PySem.W.R.bindR K k) (Fast.tw9442747609961115081 env)) fR
noncomputable abbrev lrK (e : Nat) (env : Env) : Unit → Sem Flow := fun _ => PySem.W.R.bindR (Fast.tw5670386056902412789 (.ref e) none) fun _ => Fast.tw14206642085496868694 (.ref e) env lrHds
noncomputable def rLR (w : World) (s : Shared) (B : Nat) (buf : Str) (tb : Nat) (cm : Bool) (s0 : S0) (p : Pos) : Option Out :=
 rn w s B [] 25 (gLR buf tb cm s0) p [] (den (cLR buf tb cm)) 18295874576977920 []
section
variable {w : World} {a b c : Bool} {s s1 : Shared} {buf : Str} {tb : Nat} {cm : Bool} {s0 : S0} {p : Pos} {R : Result → Shared → Prop} {B e : Nat}
theorem lr_start (H : HpW (W3 w a b c) s.heap [])
   (K : ∀ B s' p', s.heap.objs.size = B → HpW (W3 w a b c) s'.heap [(B, lrFrame (W3 w a b c) s buf tb cm #[])] → Beh [] s s' →
     wpCode (model prg (W3 w a b c)) (gSP buf tb cm s0 (lrF B)) (fun r s'' => Mn (model prg (W3 w a b c)) R (cfΓ (rLR (W3 w a b c) s B buf tb cm s0 p)) (cfp (rLR (W3 w a b c) s B buf tb cm s0 p)) (cfκ (rLR (W3 w a b c) s B buf tb cm s0 p)) (ansT (rLR (W3 w a b c) s B buf tb cm s0 p) r) s'') p' s') :
   wpCode (model prg (W3 w a b c)) (gLR buf tb cm s0) R p s := by
 refine code_mn (c := cLR buf tb cm) rfl (sn_call H 25 18295874576977920 [] [0] (fun B => [lrFrame (W3 w a b c) s buf tb cm #[]]) (fun B => gSP buf tb cm s0 (lrF B)) true dsN ?_ (by decide) ?_ ?_)
 · rfl
 · cases a <;> (intro B; kernel_rfl)
 · exact fun B s' p' hB h1 b1 => K B s' p' hB h1 b1
theorem lr_ok {u : Nat} (H : HpW (W3 w a b c) s1.heap []) (hR : ∀ s', Beh [] s1 s' → HpW (W3 w a b c) s'.heap [] → R (.ok (.ret (.ref u))) s') :
   Mn (model prg (W3 w a b c)) R (cfΓ (rLR (W3 w a b c) s B buf tb cm s0 p)) (cfp (rLR (W3 w a b c) s B buf tb cm s0 p)) (cfκ (rLR (W3 w a b c) s B buf tb cm s0 p)) (ansT (rLR (W3 w a b c) s B buf tb cm s0 p) (.ok (.ret (.ref u)))) s1 := by
 refine sn_ok H 1 0 [] [] (fun _ => []) (fun _ => .ret (.ref u)) dsN rfl (by decide) ?_ ?_
 · cases a <;> (intro B2; kernel_rfl)
 · exact fun B2 s3 _ h2 b2 => hR s3 b2 h2
theorem lr_err_tree : ansT (rLR (W3 w a b c) s B buf tb cm s0 p) (.error (.ref e)) = caughtT e (envLR B) (lrK e (envLR B)) (kNext [] (envLR B)) := by cases a <;> kernel_rfl
theorem lr_err_κ : cfκ (rLR (W3 w a b c) s B buf tb cm s0 p) = [] := by cases a <;> kernel_rfl
theorem lr_err_Γ : cfΓ (rLR (W3 w a b c) s B buf tb cm s0 p) = ⟨.func lrDef.2.1 (envLR B), none, none, s0.l, none⟩ := by cases a <;> kernel_rfl
end
end Mine
end
section
namespace Mine
open PySem PySem.W
open PySem.Sem (wp finPost)
theorem mn_caught {M : Model} {R : Result → Shared → Prop} {Γ : Ctx} {p : Pos} {s : Shared} {e : Nat} {env : Env} {K : Unit → Sem Flow} {k : Flow → Sem Flow}
   (h : wp M Γ (noteFrame (.ref e) env) (fun _ _ s' => ∀ p', Mn M R Γ p' [] (afterT env (K ()) k) s') (fun _ _ _ => False) p s) : Mn M R Γ p [] (caughtT e env K k) s := by
 have e1 : caughtT e env K k = Sem.bind (Sem.onRaise (Sem.bind (Sem.bind (noteFrame (.ref e) env) K) k) (leaving env)) fR := by
   unfold caughtT
   rw [← Fast.te9442747609961115081, ← Fast.te17872113653443481271, ← PySem.W.R.bindR_eq, ← PySem.W.R.onRaiseR_eq]
 have e2 : afterT env (K ()) k = Sem.bind (Sem.onRaise (Sem.bind (K ()) k) (leaving env)) fR := by
   unfold afterT
   rw [← Fast.te9442747609961115081, ← PySem.W.R.bindR_eq, ← PySem.W.R.onRaiseR_eq]
 rw [e1]
 rw [e2] at h
 refine ⟨?_⟩
 show wp M Γ (Sem.bind (Sem.onRaise (Sem.bind (Sem.bind (noteFrame (.ref e) env) K) k) (leaving env)) fR) _ _ p s
 rw [Sem.wp_bind, Sem.wp_onRaise, Sem.wp_bind, Sem.wp_bind]
 refine Sem.wp_mono M Γ _ (fun _ p' s' h' => ?_) (fun _ _ _ h' => h'.elim) p s h
 have z := (h' p').out
 have z' : wp M Γ (Sem.bind (Sem.onRaise (Sem.bind (K ()) k) (leaving env)) fR) (finPost M Γ (RetK M R [])) (fun e _ s' => RetK M R [] (.error e) s') p' s' := z
 rw [Sem.wp_bind, Sem.wp_onRaise, Sem.wp_bind] at z'
 exact z'
noncomputable abbrev exO (cls : String) (d : Option Addr) (t T : Nat) (vs : List Value) (sl : Array (Option Value)) : Obj := ⟨.type cls, d, .fields ⟨.ref t :: .ref T :: vs⟩, sl⟩
noncomputable abbrev tbO (c : Value) (d : Option Addr) (a0 a1 a2 fl : Value) (vs : List Value) (sl : Array (Option Value)) : Obj := ⟨c, d, .fields ⟨a0 :: a1 :: a2 :: fl :: vs⟩, sl⟩
noncomputable abbrev tpO (d : Option Addr) (args : List Value) (n : Nat) (sl : Array (Option Value)) : Obj := ⟨.type "tuple", d, .seq ⟨args⟩ n, sl⟩
theorem arr2 {vs : Array Value} {a b : Value} (h0 : vs[0]? = some a) (h1 : vs[1]? = some b) : ∃ l, vs = ⟨a :: b :: l⟩ := by
 obtain ⟨l⟩ := vs
 match l with
 | [] => simp at h0
 | [x] => simp at h1
 | x :: y :: l => simp at h0 h1; subst h0 h1; exact ⟨l, rfl⟩
theorem arr4 {vs : Array Value} {a : Value} (h : vs[3]? = some a) : ∃ x y z l, vs = ⟨x :: y :: z :: a :: l⟩ := by
 obtain ⟨l⟩ := vs
 match l with
 | [] => simp at h
 | [x] => simp at h
 | [x, y] => simp at h
 | [x, y, z] => simp at h
 | x :: y :: z :: w :: l => simp at h; subst h; exact ⟨x, y, z, l, rfl⟩
theorem Fly.hp3 {w : World} {s₀ : Shared} {h : Heap} {e : Nat} {cls : String} {args : List Value} {fl : Value} {L : List (Nat × Obj)} (F : Fly w s₀ h e (.type cls) args fl) (H : HpW w h L) (hL : ∀ x ∈ L, s₀.heap.get? x.1 ≠ none) :
   ∃ d t T vs sl c' d' a0 a1 a2 ws sl' d'' n sl'', HpW w h ([(e, exO cls d t T vs sl), (T, tbO c' d' a0 a1 a2 fl ws sl'), (t, tpO d'' args n sl'')] ++ L) ∧ (s₀.heap.get? e = none ∧ s₀.heap.get? T = none ∧ s₀.heap.get? t = none) := by
 obtain ⟨oe, vs, T, oT, ts, t, h1, h2, h3, h4, h5, h6, h7, h8, h9,⟨ot, n, g1, g2, g3⟩,⟨h11, h12, h13⟩, h14, h15, h16⟩ := F
 obtain ⟨l2, rfl⟩ := arr2 h4 h5
 obtain ⟨x, y, z, l4, rfl⟩ := arr4 h9
 obtain ⟨c1, d1, dt1, sl1⟩ := oe
 obtain ⟨c2, d2, dt2, sl2⟩ := oT
 obtain ⟨c3, d3, dt3, sl3⟩ := ot
 dsimp only at h2 h3 h8 g2 g3
 subst h2 h3 h8 g2 g3
 have n1 : t ≠ e := fun q => by rw [q, h1] at g1; cases g1
 have n2 : t ≠ T := fun q => by rw [q, h7] at g1; cases g1
 refine ⟨d1, t, T, l2, sl1, c2, d2, x, y, z, l4, sl2, d3, n, sl3,⟨H.top, fun x hx => ?_, ?_, fun x hx => ?_, H.big⟩, h11, h12, h13⟩
 · simp only [List.cons_append, List.nil_append, List.mem_cons] at hx
   rcases hx with rfl | rfl | rfl | hx
   · exact h1
   · exact h7
   · exact g1
   · exact H.own x hx
 · have dis : ∀ a, s₀.heap.get? a = none → a ∉ L.map (·.1) := fun a ha hm => by
     obtain ⟨y, hy, rfl⟩ := List.mem_map.mp hm
     exact hL y hy ha
   show (e :: T :: t :: L.map (·.1)).Nodup
   refine List.nodup_cons.mpr ⟨fun q => ?_, List.nodup_cons.mpr ⟨fun q => ?_, List.nodup_cons.mpr ⟨dis t h13, H.sep⟩⟩⟩
   · rcases List.mem_cons.mp q with q | q
     · exact h6 q.symm
     · rcases List.mem_cons.mp q with q | q
       · exact n1 q.symm
       · exact dis e h11 q
   · rcases List.mem_cons.mp q with q | q
     · exact n2 q.symm
     · exact dis T h12 q
 · simp only [List.cons_append, List.nil_append, List.mem_cons] at hx
   rcases hx with rfl | rfl | rfl | hx
   · exact noTop_of h14
   · exact h15
   · exact noTop_of h16
   · exact H.low x hx
section
variable {w : World} {a b c : Bool} {s s1 : Shared} {buf : Str} {tb : Nat} {cm : Bool} {s0 : S0} {p : Pos} {R : Result → Shared → Prop} {B e t T n tk : Nat} {d d' d'' : Option Addr} {vs ws : List Value} {c' a0 a1 a2 : Value} {sl sl' sl'' slf : Array (Option Value)}
theorem lr_h (H : HpW (W3 w a b c) s1.heap [(e, exO "ValueError" d t T vs sl), (T, tbO c' d' a0 a1 a2 (rawInt B) ws sl'), (t, tpO d'' [.str sNoC tk] n sl''), (B, lrFrame (W3 w a b c) s buf tb cm slf)])
   (hR : ∀ s' fo, HpW (W3 w a b c) s'.heap [(e, exO "ValueError" d t T vs sl), (T, tbO c' d' a0 a1 a2 .none ws sl'), (t, tpO d'' [.str sNoC tk] n sl''), (B, fo)] → Beh [e, T, t, B] s1 s' → R (.ok (.ret (.str sNoC tk))) s') :
   Mn (model prg (W3 w a b c)) R ⟨.func lrDef.2.1 (envLR B), none, none, s0.l, none⟩ p [] (afterT (envLR B) (lrK e (envLR B) ()) (kNext [] (envLR B))) s1 := by
 refine sn_ok H 59 23755199816798744139281249034142040553307034886273 [] [0,1,2,3] (fun _ => [exO "ValueError" d t T vs sl, tbO c' d' a0 a1 a2 .none ws sl', tpO d'' [.str sNoC tk] n sl'', ⟨.type "frame", none, .dict #[⟨hs (W3 w a b c) #[116,101,120,116], .str ⟨#[116,101,120,116]⟩ s.toks, .str buf tb⟩,⟨hs (W3 w a b c) #[114,101,109,97,114,107], .str ⟨#[114,101,109,97,114,107]⟩ (s.toks + 1), .bool cm⟩] 4, slf⟩]) (fun _ => .ret (.str sNoC tk)) dsN ?_ (by decide) ?_ ?_
 · kernel_rfl
 · cases a <;> (intro B2; kernel_rfl)
 · exact fun B2 s2 _ h2 b2 => hR s2 _ h2 b2
end
noncomputable def LrK (w : World) (R : Result → Shared → Prop) (Fr : List (Nat × Obj)) (s : Shared) (ts : List (List Nat)) : Bool → Prop
 | false => ∀ s' f u vs c', IsStrs vs ts → s.heap.get? u = none → HpW w s'.heap (reS f Fr ++ [(u, listO vs c')]) → Beh (Fr.map (·.1)) s s' → Dead s s' → R (.ok (.ret (.ref u))) s'
 | true => ∀ s' f tk, HpW w s'.heap (reS f Fr) → Beh (Fr.map (·.1)) s s' → Dead s s' → R (.ok (.ret (.str sNoC tk))) s'
theorem lr_spec {w : World} {a b c : Bool} {s : Shared} {buf : Str} {tb : Nat} {cm : Bool} {s0 : S0} {p : Pos} {R : Result → Shared → Prop} {Fr : List (Nat × Obj)} {ts : List (List Nat)} {er : Bool}
   (H : HpW (W3 w a b c) s.heap Fr) (hN : NoFields Fr) (hF : FrOk [s0.law.e] Fr) (hf : buf.length ≤ 1000) (hts : ts.length ≤ 1000) (T : Toks cm buf.cps.toList ts er) (hR : LrK (W3 w a b c) R Fr s ts er) :
   wpCode (model prg (W3 w a b c)) (gLR buf tb cm s0) R p s := by
 refine lr_start H.nil fun B s1 p1 hB h1 b1 => ?_
 have dB : s.heap.get? B = none := Heap.get?_none_of_le (Nat.le_of_eq hB)
 have H1 : HpW (W3 w a b c) s1.heap ((B, lrFrame (W3 w a b c) s buf tb cm #[]) :: Fr) := Hp.new H h1 b1 (fun x hx => by rw [List.mem_singleton.mp hx]; exact dB)
 have d1 : Dead s s1 := dead_nil b1
 have hN1 : NoFields ((B, lrFrame (W3 w a b c) s buf tb cm #[]) :: Fr) := hN.cons lr_not_fields
 have hF1 : FrOk (envLR B :: [s0.law.e]) ((B, lrFrame (W3 w a b c) s buf tb cm #[]) :: Fr) := FrOk.cons (env := envLR B) hF (lr_kind _) rfl
 have drp : ∀ {s3 : Shared}, Beh (((B, lrFrame (W3 w a b c) s buf tb cm #[]) :: Fr).map (·.1)) s1 s3 → Beh (Fr.map (·.1)) s s3 := fun {s3} b3 =>
   beh_new (n := B) hB (b1.widen (by simp)) b3 fun z q => by
     rcases List.mem_cons.mp q with q | q
     · right; exact Nat.le_of_eq q.symm
     · left; exact q
 refine sp_spec (rd := lrF B) H1 hN1 hF1 hf hts T ?_
 cases er with
 | false =>
   intro s2 f u vs c' hs hu h2 b2 d2
   refine lr_ok h2.nil fun s3 b3 h3 => ?_
   have H3 := Hp.keep h2 h3 b3
   refine hR s3 f u vs c' hs (d1 _ hu) (Hp.sub (List.Sublist.append ((List.Sublist.refl (reS f Fr)).cons _) (List.Sublist.refl _)) H3) (Beh.trans (drp b2) b3 (by simp)) ((d1.trans d2).trans (dead_nil b3))
 | true =>
   intro s2 f e tk h2 b2 d2 F2
   show Mn _ _ _ _ _ _ _
   rw [lr_err_tree, lr_err_κ, lr_err_Γ]
   have S : Std (W3 w a b c) [] (reS f ((B, lrFrame (W3 w a b c) s buf tb cm #[]) :: Fr)) (B :: Fr.map (·.1)) s1 s2 (envLR B :: [s0.law.e]) :=
     ⟨h2, hN1.re f, b2, d2, fun x hx => by
       have := List.mem_map_of_mem (f := (·.1)) hx
       rw [reS_keys] at this
       exact this, fun x hx => by simp at hx, hF1.re f⟩
   refine mn_caught ?_
   refine note_next (Q := fun _ s' => ∀ p', Mn _ R _ p' [] _ s') (E := fun _ _ => False) S rfl rfl F2 fun h' f' F p' => ?_
   obtain ⟨y1, y2, y3, y4⟩ := F
   rw [reS_reS] at y1
   have y1' : HpW (W3 w a b c) h' ((B, lrFrame (W3 w a b c) s buf tb cm (f' B)) :: reS f' Fr) := y1
   have live : ∀ x ∈ ((B, lrFrame (W3 w a b c) s buf tb cm (f' B)) :: reS f' Fr), s1.heap.get? x.1 ≠ none := fun x hx => by
     have hx' := List.mem_map_of_mem (f := (·.1)) hx
     refine hp_live H1 ?_
     have : x.1 ∈ B :: (reS f' Fr).map (·.1) := hx'
     rw [reS_keys] at this
     exact this
   obtain ⟨d, t, T, vs, sl, c', d', a0, a1, a2, ws, sl', d'', n, sl'', H3, e1, e2, e3⟩ := Fly.hp3 y4 y1' live
   have H3' : HpW (W3 w a b c) ({ s2 with heap := h' } : Shared).heap ([(e, exO "ValueError" d t T vs sl), (T, tbO c' d' a0 a1 a2 (rawInt B) ws sl'), (t, tpO d'' [.str sNoC tk] n sl''), (B, lrFrame (W3 w a b c) s buf tb cm (f' B))] ++ reS f' Fr) := H3
   refine lr_h (Hp.part H3') fun s4 fo h4 b4 => ?_
   have H4 := Hp.join H3' h4 b4 rfl
   refine hR s4 f' tk (Hp.back H4) ?_ ((d1.trans y3).trans (dead_of b4 fun z hz => hp_live h4 hz))
   refine beh_new (n := B) hB (b1.widen (by simp)) (Beh.drop (Beh.trans (bs := [e, T, t, B]) (Beh.widen y2 (bs := [e, T, t, B] ++ Fr.map (·.1)) ?_) b4 (fun z hz => List.mem_append_left _ hz)) (bs := B :: Fr.map (·.1)) ?_) fun z q => ?_
   · intro z hz
     rcases List.mem_cons.mp hz with h | h
     · simp [h]
     · exact List.mem_append_right _ h
   · intro z hz
     simp only [List.mem_append, List.mem_cons, List.not_mem_nil, or_false] at hz ⊢
     rcases hz with (h | h | h | h) | h
     · right; rw [h]; exact e1
     · right; rw [h]; exact e2
     · right; rw [h]; exact e3
     · left; left; exact h
     · left; right; exact h
   · rcases List.mem_cons.mp q with q | q
     · right; exact Nat.le_of_eq q.symm
     · left; exact q
end Mine
end
section
namespace Mine
open PySem PySem.W
open PySem.Sem (wp finPost)
open PySem.W.X (KT)
open PySem.Calls
theorem Hp.upd {n₁ : Nat} {kt : KT} {h : Heap} {A C : List (Nat × Obj)} {a : Nat} {o : Obj} {f : Obj → Obj} (H : Hp n₁ kt h (A ++ (a, o) :: C)) (hf : (f o).isFreed = false) : Hp n₁ kt (h.update a f) (A ++ (a, f o) :: C) := by
 have ho : h.get? a = some o := H.own (a, o) (by simp)
 have sep := H.sep
 rw [List.map_append, List.map_cons] at sep
 have nd := List.nodup_append.mp sep
 have nd2 := List.nodup_cons.mp nd.2.1
 have hA : ∀ x ∈ A, x.1 ≠ a := fun x hx q => nd.2.2 x.1 (List.mem_map_of_mem hx) a (by simp) q
 have hC : ∀ x ∈ C, x.1 ≠ a := fun x hx q => nd2.1 (q ▸ List.mem_map_of_mem (f := (·.1)) hx)
 refine ⟨fun b o' hb e => ?_, fun x hx => ?_, ?_, fun x hx => ?_, ?_⟩
 · exact (Heap.get?_update_other _ _ (fun q : a = b => H.low (a, o) (by simp) o' (q ▸ hb) (q ▸ e))).trans (H.top b o' hb e)
 · rcases List.mem_append.mp hx with hx | hx
   · exact (Heap.get?_update_other _ _ (Ne.symm (hA x hx))).trans (H.own x (List.mem_append_left _ hx))
   · rcases List.mem_cons.mp hx with rfl | hx
     · exact Heap.get?_update_self _ ho hf
     · exact (Heap.get?_update_other _ _ (Ne.symm (hC x hx))).trans (H.own x (List.mem_append_right _ (.tail _ hx)))
 · rw [List.map_append, List.map_cons]; exact sep
 · rcases List.mem_append.mp hx with hx | hx
   · exact H.low x (List.mem_append_left _ hx)
   · rcases List.mem_cons.mp hx with rfl | hx
     · exact H.low (a, o) (by simp)
     · exact H.low x (List.mem_append_right _ (.tail _ hx))
 · rw [(Heap.SameBut.update h a f).1]; exact H.big
theorem Hp.push {n₁ : Nat} {kt : KT} {h : Heap} {L : List (Nat × Obj)} {o : Obj} (H : Hp n₁ kt h L) (hf : o.isFreed = false) : Hp n₁ kt (h.push o) (L ++ [(h.objs.size, o)]) := by
 refine ⟨fun b o' hb e => Heap.get?_push_of_some _ (H.top b o' hb e), fun x hx => ?_, ?_, fun x hx => ?_, ?_⟩
 · rcases List.mem_append.mp hx with hx | hx
   · exact Heap.get?_push_of_some _ (H.own x hx)
   · rw [List.mem_singleton.mp hx]; exact Heap.get?_push_size _ hf
 · rw [List.map_append]
   refine List.nodup_append.mpr ⟨H.sep, by simp, fun a ha b hb e => ?_⟩
   obtain ⟨x, hx, rfl⟩ := List.mem_map.mp ha
   have := Heap.lt_size (H.own x hx)
   have hb' : b = h.objs.size := by simpa using hb
   exact absurd (e.trans hb') (Nat.ne_of_lt this)
 · rcases List.mem_append.mp hx with hx | hx
   · exact H.low x hx
   · rw [List.mem_singleton.mp hx]; exact noTop_of H.big
 · rw [Heap.size_push]; have := H.big; omega
theorem beh_upd (s : Shared) (a : Nat) (f : Obj → Obj) : Beh [a] s { s with heap := s.heap.update a f } :=
 ⟨fun b o e n => (Heap.get?_update_other _ _ (fun q : a = b => n (by simp [q]))).trans e, rfl, rfl, rfl⟩
theorem beh_push (s : Shared) (o : Obj) : Beh [] s { s with heap := s.heap.push o } := ⟨fun b o' e _ => Heap.get?_push_of_some _ e, rfl, rfl, rfl⟩
theorem Hp.toks {w : World} {s s' : Shared} {L : List (Nat × Obj)} (H : HpW w s.heap L) (e : s'.heap = s.heap) : HpW w s'.heap L := e ▸ H
section
variable {prog : Program} {w : World} {Γ : Ctx} {p : Pos} {s : Shared} {R : Result → Shared → Prop}
theorem slot_at {T : String} {name : Str} {id : String} {b : Builtin} {self : Value} {rest : List Value} (hc : Γ.code = .call (.builtin id) ⟨self :: rest, []⟩) (h : Slot T name id) (hT : s.TypeIs self T) (hb : entryFor table id = some b) (ha : argsOk id ⟨self :: rest, []⟩)
   (g : wpAny (model prog w) (arOf Γ).in1 (b ⟨self :: rest, []⟩) (fun fin s' => match fin with | .done f => R (.ok f) s' | .again c' => c'.quiet = true ∧ codeAny (model prog w) (arOf Γ) c' R s') (fun e s' => R (.error e) s') s) : wpCode (model prog w) Γ R p s :=
 codeAny_call_builtin h.plain hb (h.check _ _ _ _ _ _ _ _ hT ha g) Γ p hc (below_goto (Γ := Γ) Γ.code)
theorem wpAny_stop {α : Type} {A : Around} (hh : A.handled = none) {Q : α → Shared → Prop} {E : Value → Shared → Prop} (h : E (.ref (s.heap.objs.size + 1)) { s with heap := (s.heap.push tup0).push (excNew "StopIteration" s.heap.objs.size) }) :
   wpAny (model prog w) A.in1 (Builtin.SmallTypes.stopIteration : Sem α) Q E s := by
 unfold Builtin.SmallTypes.stopIteration
 show wpAny _ _ (newExc (.type "StopIteration") [] >>= _) _ _ _
 refine wpAny_bind ?_
 simp only [newExc, newTuple]
 refine wpAny_bind (wpAny_newObj_type ?_ (by size_fits))
 refine wpAny_bind (m := firstArgMember _ _) (wpAny_of_eq (a := Value.none) (by first | rfl | (simp only [firstArgMember]; rfl)) ?_)
 refine wpAny_newObj_type ?_ (by size_fits)
 simp only [raiseNew]
 refine wpAny_bind (wpAny_handled ?_)
 rw [show A.in1.handled = none from hh]
 refine wpAny_bind (wpAny_pure (wpAny_throw ?_))
 rw [Heap.size_push]
 exact h
end
noncomputable def itO (l i : Nat) : Obj := ⟨.type "list_iterator", none, .fields #[.ref l, .int i 0], #[]⟩
noncomputable def itE (i : Nat) : Obj := ⟨.type "list_iterator", none, .fields #[.none, .int i 0], #[]⟩
section
variable {w : World} {Γ : Ctx} {p : Pos} {s : Shared} {R : Result → Shared → Prop} {it l i c : Nat} {vs : List Value} {v : Value}
theorem next_item (hΓ : Γ.code = .call (.builtin "list_iterator.__next__") ⟨[.ref it], []⟩) (H : HpW w s.heap [(it, itO l i), (l, listO vs c)]) (hx : vs[i]? = some v)
   (hR : ∀ s', HpW w s'.heap [(it, itO l (i + 1)), (l, listO vs c)] → Beh [it] s s' → R (.ok (.ret v)) s') : wpCode (model prg w) Γ R p s := by
 have ho := H.own (it, itO l i) (by simp)
 have hl := H.own (l, listO vs c) (by simp)
 refine slot_at hΓ slot_listiter_next ⟨_, ho, rfl⟩ entry_listiter_next (args_listiter_next _) ?_
 show wpAny _ _ (field (.ref it) 0 >>= _) _ _ s
 refine wpAny_bind (wpAny_field ho rfl (x := .ref l) rfl ?_)
 show wpAny _ _ (if (Value.ref l == Value.none) = true then _ else _) _ _ s
 rw [if_neg (show ¬ ((Value.ref l == Value.none) = true) from Bool.false_ne_true)]
 show wpAny _ _ (field (.ref it) 1 >>= _) _ _ s
 refine wpAny_bind (wpAny_field ho rfl (x := .int i 0) rfl ?_)
 show wpAny _ _ (seqItems? (.ref l) >>= _) _ _ s
 refine wpAny_bind (wpAny_seqItems hl rfl ?_)
 have hx' : (⟨vs⟩ : Array Value)[i]? = some v := by simpa using hx
 simp only [Int.toNat_natCast, hx']
 refine wpAny_bind (wpAny_setField ho rfl (by simp) (wpAny_pure ?_))
 refine hR _ ?_ (beh_upd _ _ _)
 have H' := Hp.upd (A := []) (C := [(l, listO vs c)]) (f := Obj.mapFields (·.setIfInBounds 1 (rawInt ((i : Int) + 1)))) H rfl
 have e : Obj.mapFields (·.setIfInBounds 1 (rawInt ((i : Int) + 1))) (itO l i) = itO l (i + 1) := by
   show (⟨_, _, .fields (#[Value.ref l, .int i 0].setIfInBounds 1 (rawInt ((i : Int) + 1))), _⟩ : Obj) = ⟨_, _, .fields #[.ref l, .int ((i + 1 : Nat) : Int) 0], _⟩
   simp [rawInt]
 rw [e] at H'
 exact H'
theorem next_end (hΓ : Γ.code = .call (.builtin "list_iterator.__next__") ⟨[.ref it], []⟩) (hh : Γ.handled = none) (H : HpW w s.heap [(it, itO l i), (l, listO vs c)]) (hx : vs[i]? = none)
   (hR : ∀ s' e t, HpW w s'.heap [(it, itE i), (l, listO vs c), (t, tup0), (e, excNew "StopIteration" t)] → Beh [it] s s' → s.heap.get? e = none → s.heap.get? t = none → R (.error (.ref e)) s') : wpCode (model prg w) Γ R p s := by
 have ho := H.own (it, itO l i) (by simp)
 have hl := H.own (l, listO vs c) (by simp)
 refine slot_at hΓ slot_listiter_next ⟨_, ho, rfl⟩ entry_listiter_next (args_listiter_next _) ?_
 show wpAny _ _ (field (.ref it) 0 >>= _) _ _ s
 refine wpAny_bind (wpAny_field ho rfl (x := .ref l) rfl ?_)
 show wpAny _ _ (if (Value.ref l == Value.none) = true then _ else _) _ _ s
 rw [if_neg (show ¬ ((Value.ref l == Value.none) = true) from Bool.false_ne_true)]
 show wpAny _ _ (field (.ref it) 1 >>= _) _ _ s
 refine wpAny_bind (wpAny_field ho rfl (x := .int i 0) rfl ?_)
 show wpAny _ _ (seqItems? (.ref l) >>= _) _ _ s
 refine wpAny_bind (wpAny_seqItems hl rfl ?_)
 have hx' : (⟨vs⟩ : Array Value)[i]? = none := by simpa using hx
 simp only [Int.toNat_natCast, hx']
 refine wpAny_bind (wpAny_rule (wpAny_bind (wpAny_setField ho rfl (by simp) (wpAny_stop hh ?_))))
 have H1 : HpW w (s.heap.update it (Obj.mapFields (·.setIfInBounds 0 Value.none))) ([] ++ (it, itE i) :: [(l, listO vs c)]) := Hp.upd (A := []) (C := [(l, listO vs c)]) (f := Obj.mapFields (·.setIfInBounds 0 Value.none)) H rfl
 have H2 := (H1.push (o := tup0) rfl).push (o := excNew "StopIteration" (s.heap.update it (Obj.mapFields (·.setIfInBounds 0 Value.none))).objs.size) rfl
 rw [Heap.size_push] at H2
 have hs : (s.heap.update it (Obj.mapFields (·.setIfInBounds 0 Value.none))).objs.size = s.heap.objs.size := (Heap.SameBut.update s.heap it (Obj.mapFields (·.setIfInBounds 0 Value.none))).1
 refine hR _ _ _ H2 (Beh.trans (Beh.trans (beh_upd s it (Obj.mapFields (·.setIfInBounds 0 Value.none))) (beh_push _ tup0) (by simp)) (beh_push _ _) (by simp)) ?_ ?_
 · exact Heap.get?_none_of_le (Nat.le_succ_of_le (Nat.le_of_eq hs.symm))
 · exact Heap.get?_none_of_le (Nat.le_of_eq hs.symm)
end
end Mine
end
section
namespace Mine
open PySem PySem.W
noncomputable def forOf : Option Stmt → Expr × List Stmt × List Stmt
 | some (.For t _ b o _) => (t, b, o)
 | _ => (.Constant .none 0 ⟨0,0,0,0⟩, [], [])
noncomputable def lpDef : Dft := topDef 29
noncomputable def envLP (L : Nat) : Env := { scope := lpDef.2.2, locals := L, globals := 3, cells := [], qual := ⟨#[95,108,97,119,95,112,105,101,99,101,115,46,60,108,111,99,97,108,115,62,46]⟩, func := some 772, code := .ref 771, frame := some L, builtins := 0 }
noncomputable def lpW : Expr × List Stmt × List Stmt := forOf (nth lpDef.2.1 1)
noncomputable abbrev cLP (sc : Nat) : Code := .call (.ref 772) ⟨[.ref sc], []⟩
noncomputable abbrev gLP (sc : Nat) (law : Fm) (q : Pos) : Ctx := ⟨cLP sc, none, none, [law.c, (.builtin "claim.caller" {}, q)], none⟩
noncomputable def lpF (B : Nat) : Fm := ⟨lpDef.2.1, envLP B, ⟨753,18,753,29⟩⟩
noncomputable def cLPL (it L : Nat) : Code := .forLoop lpW.1 (.ref it) lpW.2.1 lpW.2.2 (envLP L)
noncomputable def gLPL (it L : Nat) (law : Fm) (q : Pos) : Ctx := ⟨cLPL it L, none, none, [(lpF L).c, law.c, (.builtin "claim.caller" {}, q)], none⟩
structure LpB where
 n : Value
 r : Value
 m : Value
 kn : Nat
 kr : Nat
 km : Nat
noncomputable def lpFr (w : World) (sc u k0 k1 : Nat) : Option LpB → Obj
 | none => ⟨.type "frame", none, .dict #[⟨hs w #[115,99,114,105,112,116], .str ⟨#[115,99,114,105,112,116]⟩ k0,.ref sc⟩,⟨hs w #[112,105,101,99,101,115], .str ⟨#[112,105,101,99,101,115]⟩ k1,.ref u⟩] 2, #[]⟩
 | some b => ⟨.type "frame", none, .dict #[⟨hs w #[115,99,114,105,112,116], .str ⟨#[115,99,114,105,112,116]⟩ k0,.ref sc⟩,⟨hs w #[112,105,101,99,101,115], .str ⟨#[112,105,101,99,101,115]⟩ k1,.ref u⟩,⟨hs w #[110,117,109,98,101,114], .str ⟨#[110,117,109,98,101,114]⟩ b.kn, b.n⟩,⟨hs w #[114,101,115,116], .str ⟨#[114,101,115,116]⟩ b.kr, b.r⟩,⟨hs w #[109,111,114,101], .str ⟨#[109,111,114,101]⟩ b.km, b.m⟩] 5, #[]⟩
noncomputable def slO (a b c : Value) : Obj := ⟨.type "slice", none, .fields #[a, b, c], #[]⟩
noncomputable def lpPos : Pos := ⟨753,8,753,14⟩
noncomputable def rP1 (w : World) (s : Shared) (B sc : Nat) (vs : List Value) (c : Nat) (law : Fm) (q p : Pos) : Option Out := rn w s B [(sc, listO vs c)] 31 (gLP sc law q) p [] (den (cLP sc)) 1171226313773031424 []
noncomputable def rP2 (w : World) (s : Shared) (B sc : Nat) (vs : List Value) (c : Nat) (law : Fm) (q p : Pos) (s1 : Shared) (B1 l : Nat) (ws : List Value) : Option Out :=
 rn w s1 B1 [(sc, listO vs c), (B + 1, lpFr w sc (B + 2) s.toks (s.toks + 2) none), (B + 2, listO [.str ⟨#[]⟩ (s.toks + 1)] 0), (l, listO ws 0)] 11 (cfΓ (rP1 w s B sc vs c law q p)) (cfp (rP1 w s B sc vs c law q p)) (cfκ (rP1 w s B sc vs c law q p)) (ansT (rP1 w s B sc vs c law q p) (.ok (.ret (.ref l)))) 84934916 []
noncomputable def rPT (w : World) (s : Shared) (B sc u k0 k1 : Nat) (nc : Option LpB) (vs : List Value) (c it l i L : Nat) (law : Fm) (q p : Pos) : Option Out :=
 rn w s B [(L, lpFr w sc u k0 k1 nc), (u, listO vs c), (it, itO l i)] 2 (gLPL it L law q) p [] (den (cLPL it L)) 3 []
theorem idx_last {n : Nat} (h : 0 < n) : idx (-1) n = n - 1 := by
 unfold idx
 simp only [show decide ((-1 : Int) < 0) = true from rfl]
 omega
theorem getD_last (vs : List Value) (v : Value) : (vs ++ [v]).getD (idx (-1) (vs ++ [v]).length) .none = v := by
 rw [idx_last (by simp), List.getD_eq_getElem?_getD]
 simp
theorem setAt_last {vs : List Value} {v x : Value} : setAt (vs ++ [v]) (idx (-1) (vs ++ [v]).length) x = vs ++ [x] := by
 rw [idx_last (by simp), setAt_is]
 simp
section
variable {w : World} {a b c : Bool} {s s1 : Shared} {sc u k0 k1 cc c1 it l i L B t n : Nat} {nc : Option LpB} {vs ws vs0 : List Value} {law : Fm} {q p : Pos} {R : Result → Shared → Prop}
theorem lp_start (H : HpW (W3 w a b c) s.heap [(sc, listO vs cc)])
   (K : ∀ B s' p', s.heap.objs.size = B + 1 → HpW (W3 w a b c) s'.heap [(sc, listO vs cc), (B + 1, lpFr (W3 w a b c) sc (B + 2) s.toks (s.toks + 2) none), (B + 2, listO [.str ⟨#[]⟩ (s.toks + 1)] 0), (B + 3, slO .none (.int 12 (s.toks + 3)) .none)] → Beh [sc] s s' →
     wpCode (model prg (W3 w a b c)) ⟨.call (.builtin "list.__getitem__") ⟨[.ref sc, .ref (B + 3)], []⟩, none, none, [(lpF (B + 1)).c, law.c, (.builtin "claim.caller" {}, q)], none⟩ (fun r s'' => Mn (model prg (W3 w a b c)) R (cfΓ (rP1 (W3 w a b c) s B sc vs cc law q p)) (cfp (rP1 (W3 w a b c) s B sc vs cc law q p)) (cfκ (rP1 (W3 w a b c) s B sc vs cc law q p)) (ansT (rP1 (W3 w a b c) s B sc vs cc law q p) r) s'') p' s') :
   wpCode (model prg (W3 w a b c)) (gLP sc law q) R p s := by
 refine code_mn (c := cLP sc) rfl (sn_call H 31 1171226313773031424 [] [0,1,2,3] (fun B => [listO vs cc, lpFr (W3 w a b c) sc (B + 2) s.toks (s.toks + 2) none, listO [.str ⟨#[]⟩ (s.toks + 1)] 0, slO .none (.int 12 (s.toks + 3)) .none]) (fun B => ⟨.call (.builtin "list.__getitem__") ⟨[.ref sc, .ref (B + 3)], []⟩, none, none, [(lpF (B + 1)).c, law.c, (.builtin "claim.caller" {}, q)], none⟩) true dsN ?_ (by decide) ?_ ?_)
 · rfl
 · cases a <;> (intro B; kernel_rfl)
 · exact fun B s' p' hB h1 b1 => K B s' p' hB h1 b1
theorem lp_mid (H : HpW (W3 w a b c) s1.heap [(sc, listO vs cc), (B + 1, lpFr (W3 w a b c) sc (B + 2) s.toks (s.toks + 2) none), (B + 2, listO [.str ⟨#[]⟩ (s.toks + 1)] 0), (l, listO ws 0)])
   (K : ∀ B1 s' p', s1.heap.objs.size = B1 + 4 → HpW (W3 w a b c) s'.heap [(sc, listO vs cc), (B + 1, lpFr (W3 w a b c) sc (B + 2) s.toks (s.toks + 2) none), (B + 2, listO [.str ⟨#[]⟩ (s.toks + 1)] 0), (l, listO ws 0), (B1 + 4, itO l 0)] → Beh [sc, B + 1, B + 2, l] s1 s' →
     wpCode (model prg (W3 w a b c)) (gLPL (B1 + 4) (B + 1) law q) (fun r s'' => Mn (model prg (W3 w a b c)) R (cfΓ (rP2 (W3 w a b c) s B sc vs cc law q p s1 B1 l ws)) (cfp (rP2 (W3 w a b c) s B sc vs cc law q p s1 B1 l ws)) (cfκ (rP2 (W3 w a b c) s B sc vs cc law q p s1 B1 l ws)) (ansT (rP2 (W3 w a b c) s B sc vs cc law q p s1 B1 l ws) r) s'') p' s') :
   Mn (model prg (W3 w a b c)) R (cfΓ (rP1 (W3 w a b c) s B sc vs cc law q p)) (cfp (rP1 (W3 w a b c) s B sc vs cc law q p)) (cfκ (rP1 (W3 w a b c) s B sc vs cc law q p)) (ansT (rP1 (W3 w a b c) s B sc vs cc law q p) (.ok (.ret (.ref l)))) s1 := by
 refine sn_call H 11 84934916 [] [0,1,2,3,4] (fun B1 => [listO vs cc, lpFr (W3 w a b c) sc (B + 2) s.toks (s.toks + 2) none, listO [.str ⟨#[]⟩ (s.toks + 1)] 0, listO ws 0, itO l 0]) (fun B1 => gLPL (B1 + 4) (B + 1) law q) true dsN ?_ (by decide) ?_ ?_
 · rfl
 · cases a <;> (intro B1; kernel_rfl)
 · exact fun B1 s' p' hB h1 b1 => K B1 s' p' hB h1 b1
theorem lp_fin {s2 : Shared} {B1 : Nat} (H : HpW (W3 w a b c) s2.heap [(B + 1, lpFr (W3 w a b c) sc (B + 2) s.toks (s.toks + 2) nc)]) (hR : ∀ s', Beh [B + 1] s2 s' → HpW (W3 w a b c) s'.heap [(B + 1, lpFr (W3 w a b c) sc (B + 2) s.toks (s.toks + 2) nc)] → R (.ok (.ret (.ref (B + 2)))) s') :
   Mn (model prg (W3 w a b c)) R (cfΓ (rP2 (W3 w a b c) s B sc vs cc law q p s1 B1 l ws)) (cfp (rP2 (W3 w a b c) s B sc vs cc law q p s1 B1 l ws)) (cfκ (rP2 (W3 w a b c) s B sc vs cc law q p s1 B1 l ws)) (ansT (rP2 (W3 w a b c) s B sc vs cc law q p s1 B1 l ws) (.ok .next)) s2 := by
 refine sn_ok H 3 1 [] [0] (fun _ => [lpFr (W3 w a b c) sc (B + 2) s.toks (s.toks + 2) nc]) (fun _ => .ret (.ref (B + 2))) dsN ?_ (by decide) ?_ ?_
 · cases nc <;> rfl
 · cases a <;> cases nc <;> (intro B2; kernel_rfl)
 · exact fun B2 s3 _ h2 b2 => hR s3 b2 h2
theorem lpt_start (H : HpW (W3 w a b c) s.heap [(L, lpFr (W3 w a b c) sc u k0 k1 nc), (u, listO vs cc), (it, itO l i)])
   (K : ∀ B s' p', HpW (W3 w a b c) s'.heap [(L, lpFr (W3 w a b c) sc u k0 k1 nc), (u, listO vs cc), (it, itO l i)] → Beh [L, u, it] s s' →
     wpCode (model prg (W3 w a b c)) ⟨.call (.builtin "list_iterator.__next__") ⟨[.ref it], []⟩, none, none, (cLPL it L, lpPos) :: [(lpF L).c, law.c, (.builtin "claim.caller" {}, q)], none⟩ (fun r s'' => Mn (model prg (W3 w a b c)) R (cfΓ (rPT (W3 w a b c) s B sc u k0 k1 nc vs cc it l i L law q p)) (cfp (rPT (W3 w a b c) s B sc u k0 k1 nc vs cc it l i L law q p)) (cfκ (rPT (W3 w a b c) s B sc u k0 k1 nc vs cc it l i L law q p)) (ansT (rPT (W3 w a b c) s B sc u k0 k1 nc vs cc it l i L law q p) r) s'') p' s') :
   wpCode (model prg (W3 w a b c)) (gLPL it L law q) R p s := by
 refine code_mn (c := cLPL it L) rfl (sn_call H 2 3 [] [0,1,2] (fun _ => [lpFr (W3 w a b c) sc u k0 k1 nc, listO vs cc, itO l i]) (fun _ => ⟨.call (.builtin "list_iterator.__next__") ⟨[.ref it], []⟩, none, none, (cLPL it L, lpPos) :: [(lpF L).c, law.c, (.builtin "claim.caller" {}, q)], none⟩) true dsN ?_ (by decide) ?_ ?_)
 · cases nc <;> rfl
 · cases a <;> cases nc <;> (intro B; kernel_rfl)
 · exact fun B s' p' hB h1 b1 => K B s' p' h1 b1
theorem lpt_end {e : Nat} (H : HpW (W3 w a b c) s1.heap [(e, excNew "StopIteration" t)]) (hR : ∀ s', HpW (W3 w a b c) s'.heap [(e, excNew "StopIteration" t)] → Beh [e] s1 s' → R (.ok .next) s') :
   Mn (model prg (W3 w a b c)) R (cfΓ (rPT (W3 w a b c) s B sc u k0 k1 nc vs cc it l i L law q p)) (cfp (rPT (W3 w a b c) s B sc u k0 k1 nc vs cc it l i L law q p)) (cfκ (rPT (W3 w a b c) s B sc u k0 k1 nc vs cc it l i L law q p)) (ansT (rPT (W3 w a b c) s B sc u k0 k1 nc vs cc it l i L law q p) (.error (.ref e))) s1 := by
 refine sn_ok H 2 1 [] [0] (fun _ => [excNew "StopIteration" t]) (fun _ => .next) dsN ?_ (by decide) ?_ ?_
 · rfl
 · cases a <;> cases nc <;> (intro B2; kernel_rfl)
 · exact fun B2 s3 _ h2 b2 => hR s3 h2 b2
noncomputable def LpGo (w : World) (R : Result → Shared → Prop) (law : Fm) (q : Pos) (sc u k0 k1 cc it l i L : Nat) (s : Shared) (vs : List Value) : Prop :=
 ∀ s' p' nb c', HpW w s'.heap [(L, lpFr w sc u k0 k1 (some nb)), (u, listO vs c'), (it, itO l i)] → Beh [L, u, it] s s' → wpCode (model prg w) (gLPL it L law q) R p' s'
theorem t0A {n : Int}  (hd : ((16 : Int) != 0 && !Builtin.divisionGoesByPylong n 16) = true) (h0 : (n.fmod 16 == 0) = true) (hf : fits vs.length = true) (H : HpW (W3 w a b c) s1.heap [(L, lpFr (W3 w a b c) sc u k0 k1 none), (u, listO vs c1), (it, itO l (i + 1))])
   (hR : LpGo (W3 w a b c) R law q sc u k0 k1 cc it l (i + 1) L s1 (vs ++ [.str ⟨#[]⟩ (s1.toks + 10)])) :
   Mn (model prg (W3 w a b c)) R (cfΓ (rPT (W3 w a b c) s B sc u k0 k1 none vs0 cc it l i L law q p)) (cfp (rPT (W3 w a b c) s B sc u k0 k1 none vs0 cc it l i L law q p)) (cfκ (rPT (W3 w a b c) s B sc u k0 k1 none vs0 cc it l i L law q p)) (ansT (rPT (W3 w a b c) s B sc u k0 k1 none vs0 cc it l i L law q p) (.ok (.ret (.int n t)))) s1 := by
 refine sv_again (vs := []) H 56 53555863529654164963169109650444353 [(true, true), (((16 : Int) != 0 && !Builtin.divisionGoesByPylong n 16), true), (true, true), (n.fmod 16 == 0, true), (fits vs.length, true)] [0,1,2] (fun _ => [lpFr (W3 w a b c) sc u k0 k1 (some ⟨.int n t, .int (n.fmod 16) (s1.toks + 2), .int ((n.fdiv 16).fmod 1112064) (s1.toks + 7), s1.toks, s1.toks + 3, s1.toks + 8⟩), listO (vs ++ [.str ⟨#[]⟩ (s1.toks + 10)]) (c1 + 1), itO l (i + 1)]) (fun _ => gLPL it L law q) ?_ ?_ (by decide) ?_ ?_ ?_
 · exact dsC rfl (dsC hd (dsC rfl (dsC h0 (dsC hf (dsN)))))
 · rfl
 · cases a <;> (intro B2; kernel_rfl)
 · intro B2 s2 p2 hB h2 b2
   skip
   exact hR s2 p2 _ _ h2 b2
 · exact fun _ h => nomatch h
theorem t0B {n : Int} {vn vr vm : Value} {kn kr km : Nat} (hd : ((16 : Int) != 0 && !Builtin.divisionGoesByPylong n 16) = true) (h0 : (n.fmod 16 == 0) = true) (hf : fits vs.length = true) (H : HpW (W3 w a b c) s1.heap [(L, lpFr (W3 w a b c) sc u k0 k1 (some ⟨vn, vr, vm, kn, kr, km⟩)), (u, listO vs c1), (it, itO l (i + 1))])
   (hR : LpGo (W3 w a b c) R law q sc u k0 k1 cc it l (i + 1) L s1 (vs ++ [.str ⟨#[]⟩ (s1.toks + 10)])) :
   Mn (model prg (W3 w a b c)) R (cfΓ (rPT (W3 w a b c) s B sc u k0 k1 (some ⟨vn, vr, vm, kn, kr, km⟩) vs0 cc it l i L law q p)) (cfp (rPT (W3 w a b c) s B sc u k0 k1 (some ⟨vn, vr, vm, kn, kr, km⟩) vs0 cc it l i L law q p)) (cfκ (rPT (W3 w a b c) s B sc u k0 k1 (some ⟨vn, vr, vm, kn, kr, km⟩) vs0 cc it l i L law q p)) (ansT (rPT (W3 w a b c) s B sc u k0 k1 (some ⟨vn, vr, vm, kn, kr, km⟩) vs0 cc it l i L law q p) (.ok (.ret (.int n t)))) s1 := by
 refine sv_again (vs := []) H 56 53555863529654164963169109650444353 [(true, true), (((16 : Int) != 0 && !Builtin.divisionGoesByPylong n 16), true), (true, true), (n.fmod 16 == 0, true), (fits vs.length, true)] [0,1,2] (fun _ => [lpFr (W3 w a b c) sc u k0 k1 (some ⟨.int n t, .int (n.fmod 16) (s1.toks + 2), .int ((n.fdiv 16).fmod 1112064) (s1.toks + 7), kn, kr, km⟩), listO (vs ++ [.str ⟨#[]⟩ (s1.toks + 10)]) (c1 + 1), itO l (i + 1)]) (fun _ => gLPL it L law q) ?_ ?_ (by decide) ?_ ?_ ?_
 · exact dsC rfl (dsC hd (dsC rfl (dsC h0 (dsC hf (dsN)))))
 · rfl
 · cases a <;> (intro B2; kernel_rfl)
 · intro B2 s2 p2 hB h2 b2
   skip
   exact hR s2 p2 _ _ h2 b2
 · exact fun _ h => nomatch h
theorem t1A {n : Int} {tv : Nat} (hd : ((16 : Int) != 0 && !Builtin.divisionGoesByPylong n 16) = true) (h0 : (n.fmod 16 == 0) = false) (h1 : decide (n.fmod 16 < 15) = true) (hi : idxOk (-1) (vs ++ [PySem.Value.str ⟨#[]⟩ tv]).length = true) (h2 : (fits (⟨#[39,39,39,9,13,10,35,35,97,45,34,92,32,59]⟩ : Str).length && decide (0 ≤ n.fmod 16 - 1) && decide (n.fmod 16 - 1 < (⟨#[39,39,39,9,13,10,35,35,97,45,34,92,32,59]⟩ : Str).length)) = true) (H : HpW (W3 w a b c) s1.heap [(L, lpFr (W3 w a b c) sc u k0 k1 none), (u, listO (vs ++ [PySem.Value.str ⟨#[]⟩ tv]) c1), (it, itO l (i + 1))])
   (hR : LpGo (W3 w a b c) R law q sc u k0 k1 cc it l (i + 1) L s1 (vs ++ [(.str ⟨#[(⟨#[39,39,39,9,13,10,35,35,97,45,34,92,32,59]⟩ : Str).cps.toList.getD (n.fmod 16 - 1).toNat 0]⟩ (s1.toks + 16))])) :
   Mn (model prg (W3 w a b c)) R (cfΓ (rPT (W3 w a b c) s B sc u k0 k1 none vs0 cc it l i L law q p)) (cfp (rPT (W3 w a b c) s B sc u k0 k1 none vs0 cc it l i L law q p)) (cfκ (rPT (W3 w a b c) s B sc u k0 k1 none vs0 cc it l i L law q p)) (ansT (rPT (W3 w a b c) s B sc u k0 k1 none vs0 cc it l i L law q p) (.ok (.ret (.int n t)))) s1 := by
 refine sv_again (vs := [((vs ++ [PySem.Value.str ⟨#[]⟩ tv]).getD (idx (-1) (vs ++ [PySem.Value.str ⟨#[]⟩ tv]).length) .none, PySem.Value.str ⟨#[]⟩ tv)]) H 78 976468930774159696993912785179898564401433214980161 [(true, true), (((16 : Int) != 0 && !Builtin.divisionGoesByPylong n 16), true), (true, true), (n.fmod 16 == 0, false), (decide (n.fmod 16 < 15), true), (idxOk (-1) (vs ++ [PySem.Value.str ⟨#[]⟩ tv]).length, true), (true, true), (fits (⟨#[39,39,39,9,13,10,35,35,97,45,34,92,32,59]⟩ : Str).length && decide (0 ≤ n.fmod 16 - 1) && decide (n.fmod 16 - 1 < (⟨#[39,39,39,9,13,10,35,35,97,45,34,92,32,59]⟩ : Str).length), true), (idxOk (-1) (vs ++ [PySem.Value.str ⟨#[]⟩ tv]).length, true)] [0,1,2] (fun _ => [lpFr (W3 w a b c) sc u k0 k1 (some ⟨.int n t, .int (n.fmod 16) (s1.toks + 2), .int ((n.fdiv 16).fmod 1112064) (s1.toks + 7), s1.toks, s1.toks + 3, s1.toks + 8⟩), listO (setAt (vs ++ [PySem.Value.str ⟨#[]⟩ tv]) (idx (-1) (vs ++ [PySem.Value.str ⟨#[]⟩ tv]).length) (.str ⟨#[(⟨#[39,39,39,9,13,10,35,35,97,45,34,92,32,59]⟩ : Str).cps.toList.getD (n.fmod 16 - 1).toNat 0]⟩ (s1.toks + 16))) c1, itO l (i + 1)]) (fun _ => gLPL it L law q) ?_ ?_ (by decide) ?_ ?_ ?_
 · exact dsC rfl (dsC hd (dsC rfl (dsC h0 (dsC h1 (dsC hi (dsC rfl (dsC h2 (dsC hi (dsN)))))))))
 · rfl
 · cases a <;> (intro B2; kernel_rfl)
 · intro B2 s2 p2 hB h2 b2
   rw [setAt_last] at h2
   exact hR s2 p2 _ _ h2 b2
 · intro v hv; rw [List.mem_singleton.mp hv]; exact getD_last _ _
theorem t1B {n : Int} {vn vr vm : Value} {kn kr km : Nat} {tv : Nat} (hd : ((16 : Int) != 0 && !Builtin.divisionGoesByPylong n 16) = true) (h0 : (n.fmod 16 == 0) = false) (h1 : decide (n.fmod 16 < 15) = true) (hi : idxOk (-1) (vs ++ [PySem.Value.str ⟨#[]⟩ tv]).length = true) (h2 : (fits (⟨#[39,39,39,9,13,10,35,35,97,45,34,92,32,59]⟩ : Str).length && decide (0 ≤ n.fmod 16 - 1) && decide (n.fmod 16 - 1 < (⟨#[39,39,39,9,13,10,35,35,97,45,34,92,32,59]⟩ : Str).length)) = true) (H : HpW (W3 w a b c) s1.heap [(L, lpFr (W3 w a b c) sc u k0 k1 (some ⟨vn, vr, vm, kn, kr, km⟩)), (u, listO (vs ++ [PySem.Value.str ⟨#[]⟩ tv]) c1), (it, itO l (i + 1))])
   (hR : LpGo (W3 w a b c) R law q sc u k0 k1 cc it l (i + 1) L s1 (vs ++ [(.str ⟨#[(⟨#[39,39,39,9,13,10,35,35,97,45,34,92,32,59]⟩ : Str).cps.toList.getD (n.fmod 16 - 1).toNat 0]⟩ (s1.toks + 16))])) :
   Mn (model prg (W3 w a b c)) R (cfΓ (rPT (W3 w a b c) s B sc u k0 k1 (some ⟨vn, vr, vm, kn, kr, km⟩) vs0 cc it l i L law q p)) (cfp (rPT (W3 w a b c) s B sc u k0 k1 (some ⟨vn, vr, vm, kn, kr, km⟩) vs0 cc it l i L law q p)) (cfκ (rPT (W3 w a b c) s B sc u k0 k1 (some ⟨vn, vr, vm, kn, kr, km⟩) vs0 cc it l i L law q p)) (ansT (rPT (W3 w a b c) s B sc u k0 k1 (some ⟨vn, vr, vm, kn, kr, km⟩) vs0 cc it l i L law q p) (.ok (.ret (.int n t)))) s1 := by
 refine sv_again (vs := [((vs ++ [PySem.Value.str ⟨#[]⟩ tv]).getD (idx (-1) (vs ++ [PySem.Value.str ⟨#[]⟩ tv]).length) .none, PySem.Value.str ⟨#[]⟩ tv)]) H 78 976468930774159696993912785179898564401433214980161 [(true, true), (((16 : Int) != 0 && !Builtin.divisionGoesByPylong n 16), true), (true, true), (n.fmod 16 == 0, false), (decide (n.fmod 16 < 15), true), (idxOk (-1) (vs ++ [PySem.Value.str ⟨#[]⟩ tv]).length, true), (true, true), (fits (⟨#[39,39,39,9,13,10,35,35,97,45,34,92,32,59]⟩ : Str).length && decide (0 ≤ n.fmod 16 - 1) && decide (n.fmod 16 - 1 < (⟨#[39,39,39,9,13,10,35,35,97,45,34,92,32,59]⟩ : Str).length), true), (idxOk (-1) (vs ++ [PySem.Value.str ⟨#[]⟩ tv]).length, true)] [0,1,2] (fun _ => [lpFr (W3 w a b c) sc u k0 k1 (some ⟨.int n t, .int (n.fmod 16) (s1.toks + 2), .int ((n.fdiv 16).fmod 1112064) (s1.toks + 7), kn, kr, km⟩), listO (setAt (vs ++ [PySem.Value.str ⟨#[]⟩ tv]) (idx (-1) (vs ++ [PySem.Value.str ⟨#[]⟩ tv]).length) (.str ⟨#[(⟨#[39,39,39,9,13,10,35,35,97,45,34,92,32,59]⟩ : Str).cps.toList.getD (n.fmod 16 - 1).toNat 0]⟩ (s1.toks + 16))) c1, itO l (i + 1)]) (fun _ => gLPL it L law q) ?_ ?_ (by decide) ?_ ?_ ?_
 · exact dsC rfl (dsC hd (dsC rfl (dsC h0 (dsC h1 (dsC hi (dsC rfl (dsC h2 (dsC hi (dsN)))))))))
 · rfl
 · cases a <;> (intro B2; kernel_rfl)
 · intro B2 s2 p2 hB h2 b2
   rw [setAt_last] at h2
   exact hR s2 p2 _ _ h2 b2
 · intro v hv; rw [List.mem_singleton.mp hv]; exact getD_last _ _
theorem t1C {n : Int} {vn vr vm : Value} {kn kr km : Nat} {tv : Nat} {x0 : Nat} {xr : List Nat} (hd : ((16 : Int) != 0 && !Builtin.divisionGoesByPylong n 16) = true) (h0 : (n.fmod 16 == 0) = false) (h1 : decide (n.fmod 16 < 15) = true) (hi : idxOk (-1) (vs ++ [PySem.Value.str ⟨⟨x0 :: xr⟩⟩ tv]).length = true) (h2 : (fits (⟨#[39,39,39,9,13,10,35,35,97,45,34,92,32,59]⟩ : Str).length && decide (0 ≤ n.fmod 16 - 1) && decide (n.fmod 16 - 1 < (⟨#[39,39,39,9,13,10,35,35,97,45,34,92,32,59]⟩ : Str).length)) = true) (hl : fits ((⟨⟨x0 :: xr⟩⟩ : Str) ++ (⟨#[(⟨#[39,39,39,9,13,10,35,35,97,45,34,92,32,59]⟩ : Str).cps.toList.getD (n.fmod 16 - 1).toNat 0]⟩ : Str)).length = true) (H : HpW (W3 w a b c) s1.heap [(L, lpFr (W3 w a b c) sc u k0 k1 (some ⟨vn, vr, vm, kn, kr, km⟩)), (u, listO (vs ++ [PySem.Value.str ⟨⟨x0 :: xr⟩⟩ tv]) c1), (it, itO l (i + 1))])
   (hR : LpGo (W3 w a b c) R law q sc u k0 k1 cc it l (i + 1) L s1 (vs ++ [(.str ((⟨⟨x0 :: xr⟩⟩ : Str) ++ (⟨#[(⟨#[39,39,39,9,13,10,35,35,97,45,34,92,32,59]⟩ : Str).cps.toList.getD (n.fmod 16 - 1).toNat 0]⟩ : Str)) (s1.toks + 17))])) :
   Mn (model prg (W3 w a b c)) R (cfΓ (rPT (W3 w a b c) s B sc u k0 k1 (some ⟨vn, vr, vm, kn, kr, km⟩) vs0 cc it l i L law q p)) (cfp (rPT (W3 w a b c) s B sc u k0 k1 (some ⟨vn, vr, vm, kn, kr, km⟩) vs0 cc it l i L law q p)) (cfκ (rPT (W3 w a b c) s B sc u k0 k1 (some ⟨vn, vr, vm, kn, kr, km⟩) vs0 cc it l i L law q p)) (ansT (rPT (W3 w a b c) s B sc u k0 k1 (some ⟨vn, vr, vm, kn, kr, km⟩) vs0 cc it l i L law q p) (.ok (.ret (.int n t)))) s1 := by
 refine sv_again (vs := [((vs ++ [PySem.Value.str ⟨⟨x0 :: xr⟩⟩ tv]).getD (idx (-1) (vs ++ [PySem.Value.str ⟨⟨x0 :: xr⟩⟩ tv]).length) .none, PySem.Value.str ⟨⟨x0 :: xr⟩⟩ tv)]) H 78 976468930774159696993912785179898564401433214980161 [(true, true), (((16 : Int) != 0 && !Builtin.divisionGoesByPylong n 16), true), (true, true), (n.fmod 16 == 0, false), (decide (n.fmod 16 < 15), true), (idxOk (-1) (vs ++ [PySem.Value.str ⟨⟨x0 :: xr⟩⟩ tv]).length, true), (true, true), (fits (⟨#[39,39,39,9,13,10,35,35,97,45,34,92,32,59]⟩ : Str).length && decide (0 ≤ n.fmod 16 - 1) && decide (n.fmod 16 - 1 < (⟨#[39,39,39,9,13,10,35,35,97,45,34,92,32,59]⟩ : Str).length), true), (fits ((⟨⟨x0 :: xr⟩⟩ : Str) ++ (⟨#[(⟨#[39,39,39,9,13,10,35,35,97,45,34,92,32,59]⟩ : Str).cps.toList.getD (n.fmod 16 - 1).toNat 0]⟩ : Str)).length, true), (idxOk (-1) (vs ++ [PySem.Value.str ⟨⟨x0 :: xr⟩⟩ tv]).length, true)] [0,1,2] (fun _ => [lpFr (W3 w a b c) sc u k0 k1 (some ⟨.int n t, .int (n.fmod 16) (s1.toks + 2), .int ((n.fdiv 16).fmod 1112064) (s1.toks + 7), kn, kr, km⟩), listO (setAt (vs ++ [PySem.Value.str ⟨⟨x0 :: xr⟩⟩ tv]) (idx (-1) (vs ++ [PySem.Value.str ⟨⟨x0 :: xr⟩⟩ tv]).length) (.str ((⟨⟨x0 :: xr⟩⟩ : Str) ++ (⟨#[(⟨#[39,39,39,9,13,10,35,35,97,45,34,92,32,59]⟩ : Str).cps.toList.getD (n.fmod 16 - 1).toNat 0]⟩ : Str)) (s1.toks + 17))) c1, itO l (i + 1)]) (fun _ => gLPL it L law q) ?_ ?_ (by decide) ?_ ?_ ?_
 · exact dsC rfl (dsC hd (dsC rfl (dsC h0 (dsC h1 (dsC hi (dsC rfl (dsC h2 (dsC hl (dsC hi (dsN))))))))))
 · rfl
 · cases a <;> (intro B2; kernel_rfl)
 · intro B2 s2 p2 hB h2 b2
   rw [setAt_last] at h2
   exact hR s2 p2 _ _ h2 b2
 · intro v hv; rw [List.mem_singleton.mp hv]; exact getD_last _ _
theorem t2A {n : Int} {tv : Nat} (hd : ((16 : Int) != 0 && !Builtin.divisionGoesByPylong n 16) = true) (h0 : (n.fmod 16 == 0) = false) (h1 : decide (n.fmod 16 < 15) = false) (hi : idxOk (-1) (vs ++ [PySem.Value.str ⟨#[]⟩ tv]).length = true) (h2 : decide ((n.fdiv 16).fmod 1112064 < 55296) = true) (h3 : (decide (0 ≤ (n.fdiv 16).fmod 1112064) && decide ((n.fdiv 16).fmod 1112064 ≤ 0x10FFFF)) = true) (H : HpW (W3 w a b c) s1.heap [(L, lpFr (W3 w a b c) sc u k0 k1 none), (u, listO (vs ++ [PySem.Value.str ⟨#[]⟩ tv]) c1), (it, itO l (i + 1))])
   (hR : LpGo (W3 w a b c) R law q sc u k0 k1 cc it l (i + 1) L s1 (vs ++ [(.str ⟨#[((n.fdiv 16).fmod 1112064).toNat]⟩ (s1.toks + 14))])) :
   Mn (model prg (W3 w a b c)) R (cfΓ (rPT (W3 w a b c) s B sc u k0 k1 none vs0 cc it l i L law q p)) (cfp (rPT (W3 w a b c) s B sc u k0 k1 none vs0 cc it l i L law q p)) (cfκ (rPT (W3 w a b c) s B sc u k0 k1 none vs0 cc it l i L law q p)) (ansT (rPT (W3 w a b c) s B sc u k0 k1 none vs0 cc it l i L law q p) (.ok (.ret (.int n t)))) s1 := by
 refine sv_again (vs := [((vs ++ [PySem.Value.str ⟨#[]⟩ tv]).getD (idx (-1) (vs ++ [PySem.Value.str ⟨#[]⟩ tv]).length) .none, PySem.Value.str ⟨#[]⟩ tv)]) H 84 255975471651563542537288553679827638152771271386471075905 [(true, true), (((16 : Int) != 0 && !Builtin.divisionGoesByPylong n 16), true), (true, true), (n.fmod 16 == 0, false), (decide (n.fmod 16 < 15), false), (idxOk (-1) (vs ++ [PySem.Value.str ⟨#[]⟩ tv]).length, true), (decide ((n.fdiv 16).fmod 1112064 < 55296), true), (decide (0 ≤ (n.fdiv 16).fmod 1112064) && decide ((n.fdiv 16).fmod 1112064 ≤ 0x10FFFF), true), (idxOk (-1) (vs ++ [PySem.Value.str ⟨#[]⟩ tv]).length, true)] [0,1,2] (fun _ => [lpFr (W3 w a b c) sc u k0 k1 (some ⟨.int n t, .int (n.fmod 16) (s1.toks + 2), .int ((n.fdiv 16).fmod 1112064) (s1.toks + 7), s1.toks, s1.toks + 3, s1.toks + 8⟩), listO (setAt (vs ++ [PySem.Value.str ⟨#[]⟩ tv]) (idx (-1) (vs ++ [PySem.Value.str ⟨#[]⟩ tv]).length) (.str ⟨#[((n.fdiv 16).fmod 1112064).toNat]⟩ (s1.toks + 14))) c1, itO l (i + 1)]) (fun _ => gLPL it L law q) ?_ ?_ (by decide) ?_ ?_ ?_
 · exact dsC rfl (dsC hd (dsC rfl (dsC h0 (dsC h1 (dsC hi (dsC h2 (dsC h3 (dsC hi (dsN)))))))))
 · rfl
 · cases a <;> (intro B2; kernel_rfl)
 · intro B2 s2 p2 hB h2 b2
   rw [setAt_last] at h2
   exact hR s2 p2 _ _ h2 b2
 · intro v hv; rw [List.mem_singleton.mp hv]; exact getD_last _ _
theorem t2B {n : Int} {vn vr vm : Value} {kn kr km : Nat} {tv : Nat} (hd : ((16 : Int) != 0 && !Builtin.divisionGoesByPylong n 16) = true) (h0 : (n.fmod 16 == 0) = false) (h1 : decide (n.fmod 16 < 15) = false) (hi : idxOk (-1) (vs ++ [PySem.Value.str ⟨#[]⟩ tv]).length = true) (h2 : decide ((n.fdiv 16).fmod 1112064 < 55296) = true) (h3 : (decide (0 ≤ (n.fdiv 16).fmod 1112064) && decide ((n.fdiv 16).fmod 1112064 ≤ 0x10FFFF)) = true) (H : HpW (W3 w a b c) s1.heap [(L, lpFr (W3 w a b c) sc u k0 k1 (some ⟨vn, vr, vm, kn, kr, km⟩)), (u, listO (vs ++ [PySem.Value.str ⟨#[]⟩ tv]) c1), (it, itO l (i + 1))])
   (hR : LpGo (W3 w a b c) R law q sc u k0 k1 cc it l (i + 1) L s1 (vs ++ [(.str ⟨#[((n.fdiv 16).fmod 1112064).toNat]⟩ (s1.toks + 14))])) :
   Mn (model prg (W3 w a b c)) R (cfΓ (rPT (W3 w a b c) s B sc u k0 k1 (some ⟨vn, vr, vm, kn, kr, km⟩) vs0 cc it l i L law q p)) (cfp (rPT (W3 w a b c) s B sc u k0 k1 (some ⟨vn, vr, vm, kn, kr, km⟩) vs0 cc it l i L law q p)) (cfκ (rPT (W3 w a b c) s B sc u k0 k1 (some ⟨vn, vr, vm, kn, kr, km⟩) vs0 cc it l i L law q p)) (ansT (rPT (W3 w a b c) s B sc u k0 k1 (some ⟨vn, vr, vm, kn, kr, km⟩) vs0 cc it l i L law q p) (.ok (.ret (.int n t)))) s1 := by
 refine sv_again (vs := [((vs ++ [PySem.Value.str ⟨#[]⟩ tv]).getD (idx (-1) (vs ++ [PySem.Value.str ⟨#[]⟩ tv]).length) .none, PySem.Value.str ⟨#[]⟩ tv)]) H 84 255975471651563542537288553679827638152771271386471075905 [(true, true), (((16 : Int) != 0 && !Builtin.divisionGoesByPylong n 16), true), (true, true), (n.fmod 16 == 0, false), (decide (n.fmod 16 < 15), false), (idxOk (-1) (vs ++ [PySem.Value.str ⟨#[]⟩ tv]).length, true), (decide ((n.fdiv 16).fmod 1112064 < 55296), true), (decide (0 ≤ (n.fdiv 16).fmod 1112064) && decide ((n.fdiv 16).fmod 1112064 ≤ 0x10FFFF), true), (idxOk (-1) (vs ++ [PySem.Value.str ⟨#[]⟩ tv]).length, true)] [0,1,2] (fun _ => [lpFr (W3 w a b c) sc u k0 k1 (some ⟨.int n t, .int (n.fmod 16) (s1.toks + 2), .int ((n.fdiv 16).fmod 1112064) (s1.toks + 7), kn, kr, km⟩), listO (setAt (vs ++ [PySem.Value.str ⟨#[]⟩ tv]) (idx (-1) (vs ++ [PySem.Value.str ⟨#[]⟩ tv]).length) (.str ⟨#[((n.fdiv 16).fmod 1112064).toNat]⟩ (s1.toks + 14))) c1, itO l (i + 1)]) (fun _ => gLPL it L law q) ?_ ?_ (by decide) ?_ ?_ ?_
 · exact dsC rfl (dsC hd (dsC rfl (dsC h0 (dsC h1 (dsC hi (dsC h2 (dsC h3 (dsC hi (dsN)))))))))
 · rfl
 · cases a <;> (intro B2; kernel_rfl)
 · intro B2 s2 p2 hB h2 b2
   rw [setAt_last] at h2
   exact hR s2 p2 _ _ h2 b2
 · intro v hv; rw [List.mem_singleton.mp hv]; exact getD_last _ _
theorem t2C {n : Int} {vn vr vm : Value} {kn kr km : Nat} {tv : Nat} {x0 : Nat} {xr : List Nat} (hd : ((16 : Int) != 0 && !Builtin.divisionGoesByPylong n 16) = true) (h0 : (n.fmod 16 == 0) = false) (h1 : decide (n.fmod 16 < 15) = false) (hi : idxOk (-1) (vs ++ [PySem.Value.str ⟨⟨x0 :: xr⟩⟩ tv]).length = true) (h2 : decide ((n.fdiv 16).fmod 1112064 < 55296) = true) (h3 : (decide (0 ≤ (n.fdiv 16).fmod 1112064) && decide ((n.fdiv 16).fmod 1112064 ≤ 0x10FFFF)) = true) (hl : fits ((⟨⟨x0 :: xr⟩⟩ : Str) ++ (⟨#[((n.fdiv 16).fmod 1112064).toNat]⟩ : Str)).length = true) (H : HpW (W3 w a b c) s1.heap [(L, lpFr (W3 w a b c) sc u k0 k1 (some ⟨vn, vr, vm, kn, kr, km⟩)), (u, listO (vs ++ [PySem.Value.str ⟨⟨x0 :: xr⟩⟩ tv]) c1), (it, itO l (i + 1))])
   (hR : LpGo (W3 w a b c) R law q sc u k0 k1 cc it l (i + 1) L s1 (vs ++ [(.str ((⟨⟨x0 :: xr⟩⟩ : Str) ++ (⟨#[((n.fdiv 16).fmod 1112064).toNat]⟩ : Str)) (s1.toks + 15))])) :
   Mn (model prg (W3 w a b c)) R (cfΓ (rPT (W3 w a b c) s B sc u k0 k1 (some ⟨vn, vr, vm, kn, kr, km⟩) vs0 cc it l i L law q p)) (cfp (rPT (W3 w a b c) s B sc u k0 k1 (some ⟨vn, vr, vm, kn, kr, km⟩) vs0 cc it l i L law q p)) (cfκ (rPT (W3 w a b c) s B sc u k0 k1 (some ⟨vn, vr, vm, kn, kr, km⟩) vs0 cc it l i L law q p)) (ansT (rPT (W3 w a b c) s B sc u k0 k1 (some ⟨vn, vr, vm, kn, kr, km⟩) vs0 cc it l i L law q p) (.ok (.ret (.int n t)))) s1 := by
 refine sv_again (vs := [((vs ++ [PySem.Value.str ⟨⟨x0 :: xr⟩⟩ tv]).getD (idx (-1) (vs ++ [PySem.Value.str ⟨⟨x0 :: xr⟩⟩ tv]).length) .none, PySem.Value.str ⟨⟨x0 :: xr⟩⟩ tv)]) H 84 255975471651563542537288553679827638152771271386471075905 [(true, true), (((16 : Int) != 0 && !Builtin.divisionGoesByPylong n 16), true), (true, true), (n.fmod 16 == 0, false), (decide (n.fmod 16 < 15), false), (idxOk (-1) (vs ++ [PySem.Value.str ⟨⟨x0 :: xr⟩⟩ tv]).length, true), (decide ((n.fdiv 16).fmod 1112064 < 55296), true), (decide (0 ≤ (n.fdiv 16).fmod 1112064) && decide ((n.fdiv 16).fmod 1112064 ≤ 0x10FFFF), true), (fits ((⟨⟨x0 :: xr⟩⟩ : Str) ++ (⟨#[((n.fdiv 16).fmod 1112064).toNat]⟩ : Str)).length, true), (idxOk (-1) (vs ++ [PySem.Value.str ⟨⟨x0 :: xr⟩⟩ tv]).length, true)] [0,1,2] (fun _ => [lpFr (W3 w a b c) sc u k0 k1 (some ⟨.int n t, .int (n.fmod 16) (s1.toks + 2), .int ((n.fdiv 16).fmod 1112064) (s1.toks + 7), kn, kr, km⟩), listO (setAt (vs ++ [PySem.Value.str ⟨⟨x0 :: xr⟩⟩ tv]) (idx (-1) (vs ++ [PySem.Value.str ⟨⟨x0 :: xr⟩⟩ tv]).length) (.str ((⟨⟨x0 :: xr⟩⟩ : Str) ++ (⟨#[((n.fdiv 16).fmod 1112064).toNat]⟩ : Str)) (s1.toks + 15))) c1, itO l (i + 1)]) (fun _ => gLPL it L law q) ?_ ?_ (by decide) ?_ ?_ ?_
 · exact dsC rfl (dsC hd (dsC rfl (dsC h0 (dsC h1 (dsC hi (dsC h2 (dsC h3 (dsC hl (dsC hi (dsN))))))))))
 · rfl
 · cases a <;> (intro B2; kernel_rfl)
 · intro B2 s2 p2 hB h2 b2
   rw [setAt_last] at h2
   exact hR s2 p2 _ _ h2 b2
 · intro v hv; rw [List.mem_singleton.mp hv]; exact getD_last _ _
theorem t3A {n : Int} {tv : Nat} (hd : ((16 : Int) != 0 && !Builtin.divisionGoesByPylong n 16) = true) (h0 : (n.fmod 16 == 0) = false) (h1 : decide (n.fmod 16 < 15) = false) (hi : idxOk (-1) (vs ++ [PySem.Value.str ⟨#[]⟩ tv]).length = true) (h2 : decide ((n.fdiv 16).fmod 1112064 < 55296) = false) (h3 : (decide (0 ≤ (n.fdiv 16).fmod 1112064 + 2048) && decide ((n.fdiv 16).fmod 1112064 + 2048 ≤ 0x10FFFF)) = true) (H : HpW (W3 w a b c) s1.heap [(L, lpFr (W3 w a b c) sc u k0 k1 none), (u, listO (vs ++ [PySem.Value.str ⟨#[]⟩ tv]) c1), (it, itO l (i + 1))])
   (hR : LpGo (W3 w a b c) R law q sc u k0 k1 cc it l (i + 1) L s1 (vs ++ [(.str ⟨#[((n.fdiv 16).fmod 1112064 + 2048).toNat]⟩ (s1.toks + 16))])) :
   Mn (model prg (W3 w a b c)) R (cfΓ (rPT (W3 w a b c) s B sc u k0 k1 none vs0 cc it l i L law q p)) (cfp (rPT (W3 w a b c) s B sc u k0 k1 none vs0 cc it l i L law q p)) (cfκ (rPT (W3 w a b c) s B sc u k0 k1 none vs0 cc it l i L law q p)) (ansT (rPT (W3 w a b c) s B sc u k0 k1 none vs0 cc it l i L law q p) (.ok (.ret (.int n t)))) s1 := by
 refine sv_again (vs := [((vs ++ [PySem.Value.str ⟨#[]⟩ tv]).getD (idx (-1) (vs ++ [PySem.Value.str ⟨#[]⟩ tv]).length) .none, PySem.Value.str ⟨#[]⟩ tv)]) H 87 16382430186333854249160605781728404711483365521169016426561 [(true, true), (((16 : Int) != 0 && !Builtin.divisionGoesByPylong n 16), true), (true, true), (n.fmod 16 == 0, false), (decide (n.fmod 16 < 15), false), (idxOk (-1) (vs ++ [PySem.Value.str ⟨#[]⟩ tv]).length, true), (decide ((n.fdiv 16).fmod 1112064 < 55296), false), (true, true), (decide (0 ≤ (n.fdiv 16).fmod 1112064 + 2048) && decide ((n.fdiv 16).fmod 1112064 + 2048 ≤ 0x10FFFF), true), (idxOk (-1) (vs ++ [PySem.Value.str ⟨#[]⟩ tv]).length, true)] [0,1,2] (fun _ => [lpFr (W3 w a b c) sc u k0 k1 (some ⟨.int n t, .int (n.fmod 16) (s1.toks + 2), .int ((n.fdiv 16).fmod 1112064) (s1.toks + 7), s1.toks, s1.toks + 3, s1.toks + 8⟩), listO (setAt (vs ++ [PySem.Value.str ⟨#[]⟩ tv]) (idx (-1) (vs ++ [PySem.Value.str ⟨#[]⟩ tv]).length) (.str ⟨#[((n.fdiv 16).fmod 1112064 + 2048).toNat]⟩ (s1.toks + 16))) c1, itO l (i + 1)]) (fun _ => gLPL it L law q) ?_ ?_ (by decide) ?_ ?_ ?_
 · exact dsC rfl (dsC hd (dsC rfl (dsC h0 (dsC h1 (dsC hi (dsC h2 (dsC rfl (dsC h3 (dsC hi (dsN))))))))))
 · rfl
 · cases a <;> (intro B2; kernel_rfl)
 · intro B2 s2 p2 hB h2 b2
   rw [setAt_last] at h2
   exact hR s2 p2 _ _ h2 b2
 · intro v hv; rw [List.mem_singleton.mp hv]; exact getD_last _ _
theorem t3B {n : Int} {vn vr vm : Value} {kn kr km : Nat} {tv : Nat} (hd : ((16 : Int) != 0 && !Builtin.divisionGoesByPylong n 16) = true) (h0 : (n.fmod 16 == 0) = false) (h1 : decide (n.fmod 16 < 15) = false) (hi : idxOk (-1) (vs ++ [PySem.Value.str ⟨#[]⟩ tv]).length = true) (h2 : decide ((n.fdiv 16).fmod 1112064 < 55296) = false) (h3 : (decide (0 ≤ (n.fdiv 16).fmod 1112064 + 2048) && decide ((n.fdiv 16).fmod 1112064 + 2048 ≤ 0x10FFFF)) = true) (H : HpW (W3 w a b c) s1.heap [(L, lpFr (W3 w a b c) sc u k0 k1 (some ⟨vn, vr, vm, kn, kr, km⟩)), (u, listO (vs ++ [PySem.Value.str ⟨#[]⟩ tv]) c1), (it, itO l (i + 1))])
   (hR : LpGo (W3 w a b c) R law q sc u k0 k1 cc it l (i + 1) L s1 (vs ++ [(.str ⟨#[((n.fdiv 16).fmod 1112064 + 2048).toNat]⟩ (s1.toks + 16))])) :
   Mn (model prg (W3 w a b c)) R (cfΓ (rPT (W3 w a b c) s B sc u k0 k1 (some ⟨vn, vr, vm, kn, kr, km⟩) vs0 cc it l i L law q p)) (cfp (rPT (W3 w a b c) s B sc u k0 k1 (some ⟨vn, vr, vm, kn, kr, km⟩) vs0 cc it l i L law q p)) (cfκ (rPT (W3 w a b c) s B sc u k0 k1 (some ⟨vn, vr, vm, kn, kr, km⟩) vs0 cc it l i L law q p)) (ansT (rPT (W3 w a b c) s B sc u k0 k1 (some ⟨vn, vr, vm, kn, kr, km⟩) vs0 cc it l i L law q p) (.ok (.ret (.int n t)))) s1 := by
 refine sv_again (vs := [((vs ++ [PySem.Value.str ⟨#[]⟩ tv]).getD (idx (-1) (vs ++ [PySem.Value.str ⟨#[]⟩ tv]).length) .none, PySem.Value.str ⟨#[]⟩ tv)]) H 87 16382430186333854249160605781728404711483365521169016426561 [(true, true), (((16 : Int) != 0 && !Builtin.divisionGoesByPylong n 16), true), (true, true), (n.fmod 16 == 0, false), (decide (n.fmod 16 < 15), false), (idxOk (-1) (vs ++ [PySem.Value.str ⟨#[]⟩ tv]).length, true), (decide ((n.fdiv 16).fmod 1112064 < 55296), false), (true, true), (decide (0 ≤ (n.fdiv 16).fmod 1112064 + 2048) && decide ((n.fdiv 16).fmod 1112064 + 2048 ≤ 0x10FFFF), true), (idxOk (-1) (vs ++ [PySem.Value.str ⟨#[]⟩ tv]).length, true)] [0,1,2] (fun _ => [lpFr (W3 w a b c) sc u k0 k1 (some ⟨.int n t, .int (n.fmod 16) (s1.toks + 2), .int ((n.fdiv 16).fmod 1112064) (s1.toks + 7), kn, kr, km⟩), listO (setAt (vs ++ [PySem.Value.str ⟨#[]⟩ tv]) (idx (-1) (vs ++ [PySem.Value.str ⟨#[]⟩ tv]).length) (.str ⟨#[((n.fdiv 16).fmod 1112064 + 2048).toNat]⟩ (s1.toks + 16))) c1, itO l (i + 1)]) (fun _ => gLPL it L law q) ?_ ?_ (by decide) ?_ ?_ ?_
 · exact dsC rfl (dsC hd (dsC rfl (dsC h0 (dsC h1 (dsC hi (dsC h2 (dsC rfl (dsC h3 (dsC hi (dsN))))))))))
 · rfl
 · cases a <;> (intro B2; kernel_rfl)
 · intro B2 s2 p2 hB h2 b2
   rw [setAt_last] at h2
   exact hR s2 p2 _ _ h2 b2
 · intro v hv; rw [List.mem_singleton.mp hv]; exact getD_last _ _
theorem t3C {n : Int} {vn vr vm : Value} {kn kr km : Nat} {tv : Nat} {x0 : Nat} {xr : List Nat} (hd : ((16 : Int) != 0 && !Builtin.divisionGoesByPylong n 16) = true) (h0 : (n.fmod 16 == 0) = false) (h1 : decide (n.fmod 16 < 15) = false) (hi : idxOk (-1) (vs ++ [PySem.Value.str ⟨⟨x0 :: xr⟩⟩ tv]).length = true) (h2 : decide ((n.fdiv 16).fmod 1112064 < 55296) = false) (h3 : (decide (0 ≤ (n.fdiv 16).fmod 1112064 + 2048) && decide ((n.fdiv 16).fmod 1112064 + 2048 ≤ 0x10FFFF)) = true) (hl : fits ((⟨⟨x0 :: xr⟩⟩ : Str) ++ (⟨#[((n.fdiv 16).fmod 1112064 + 2048).toNat]⟩ : Str)).length = true) (H : HpW (W3 w a b c) s1.heap [(L, lpFr (W3 w a b c) sc u k0 k1 (some ⟨vn, vr, vm, kn, kr, km⟩)), (u, listO (vs ++ [PySem.Value.str ⟨⟨x0 :: xr⟩⟩ tv]) c1), (it, itO l (i + 1))])
   (hR : LpGo (W3 w a b c) R law q sc u k0 k1 cc it l (i + 1) L s1 (vs ++ [(.str ((⟨⟨x0 :: xr⟩⟩ : Str) ++ (⟨#[((n.fdiv 16).fmod 1112064 + 2048).toNat]⟩ : Str)) (s1.toks + 17))])) :
   Mn (model prg (W3 w a b c)) R (cfΓ (rPT (W3 w a b c) s B sc u k0 k1 (some ⟨vn, vr, vm, kn, kr, km⟩) vs0 cc it l i L law q p)) (cfp (rPT (W3 w a b c) s B sc u k0 k1 (some ⟨vn, vr, vm, kn, kr, km⟩) vs0 cc it l i L law q p)) (cfκ (rPT (W3 w a b c) s B sc u k0 k1 (some ⟨vn, vr, vm, kn, kr, km⟩) vs0 cc it l i L law q p)) (ansT (rPT (W3 w a b c) s B sc u k0 k1 (some ⟨vn, vr, vm, kn, kr, km⟩) vs0 cc it l i L law q p) (.ok (.ret (.int n t)))) s1 := by
 refine sv_again (vs := [((vs ++ [PySem.Value.str ⟨⟨x0 :: xr⟩⟩ tv]).getD (idx (-1) (vs ++ [PySem.Value.str ⟨⟨x0 :: xr⟩⟩ tv]).length) .none, PySem.Value.str ⟨⟨x0 :: xr⟩⟩ tv)]) H 87 16382430186333854249160605781728404711483365521169016426561 [(true, true), (((16 : Int) != 0 && !Builtin.divisionGoesByPylong n 16), true), (true, true), (n.fmod 16 == 0, false), (decide (n.fmod 16 < 15), false), (idxOk (-1) (vs ++ [PySem.Value.str ⟨⟨x0 :: xr⟩⟩ tv]).length, true), (decide ((n.fdiv 16).fmod 1112064 < 55296), false), (true, true), (decide (0 ≤ (n.fdiv 16).fmod 1112064 + 2048) && decide ((n.fdiv 16).fmod 1112064 + 2048 ≤ 0x10FFFF), true), (fits ((⟨⟨x0 :: xr⟩⟩ : Str) ++ (⟨#[((n.fdiv 16).fmod 1112064 + 2048).toNat]⟩ : Str)).length, true), (idxOk (-1) (vs ++ [PySem.Value.str ⟨⟨x0 :: xr⟩⟩ tv]).length, true)] [0,1,2] (fun _ => [lpFr (W3 w a b c) sc u k0 k1 (some ⟨.int n t, .int (n.fmod 16) (s1.toks + 2), .int ((n.fdiv 16).fmod 1112064) (s1.toks + 7), kn, kr, km⟩), listO (setAt (vs ++ [PySem.Value.str ⟨⟨x0 :: xr⟩⟩ tv]) (idx (-1) (vs ++ [PySem.Value.str ⟨⟨x0 :: xr⟩⟩ tv]).length) (.str ((⟨⟨x0 :: xr⟩⟩ : Str) ++ (⟨#[((n.fdiv 16).fmod 1112064 + 2048).toNat]⟩ : Str)) (s1.toks + 17))) c1, itO l (i + 1)]) (fun _ => gLPL it L law q) ?_ ?_ (by decide) ?_ ?_ ?_
 · exact dsC rfl (dsC hd (dsC rfl (dsC h0 (dsC h1 (dsC hi (dsC h2 (dsC rfl (dsC h3 (dsC hl (dsC hi (dsN)))))))))))
 · rfl
 · cases a <;> (intro B2; kernel_rfl)
 · intro B2 s2 p2 hB h2 b2
   rw [setAt_last] at h2
   exact hR s2 p2 _ _ h2 b2
 · intro v hv; rw [List.mem_singleton.mp hv]; exact getD_last _ _
end
end Mine
end
section
namespace Mine
open PySem PySem.W
open PySem.Calls
noncomputable def IsInts (vs : List Value) : Prop := ∀ v ∈ vs, ∃ n t, v = .int n t
theorem divs_ok (n : Int) : ((16 : Int) != 0 && !Builtin.divisionGoesByPylong n 16) = true := by
 have : Builtin.divisionGoesByPylong n 16 = false := by
   unfold Builtin.divisionGoesByPylong
   rw [Bool.and_eq_false_iff]
   left
   decide +kernel
 rw [this]; rfl
section
variable {w : World} {Γ : Ctx} {p : Pos} {s : Shared} {R : Result → Shared → Prop}
theorem list_cut {l sl c t : Nat} {vs : List Value} {k : Int} (hΓ : Γ.code = .call (.builtin "list.__getitem__") ⟨[.ref l, .ref sl], []⟩) (H : HpW w s.heap [(l, listO vs c), (sl, slO .none (.int k t) .none)]) (hz : vs.length ≤ 1000)
   (hR : ∀ s' u, HpW w s'.heap [(u, ⟨.type "list", none, .seq (slicePick ⟨vs⟩ none (some k) none) 0, #[]⟩)] → Beh [] s s' → s.heap.get? u = none → R (.ok (.ret (.ref u))) s') : wpCode (model prg w) Γ R p s := by
 have ho := H.own (l, listO vs c) (by simp)
 have hos := H.own (sl, slO .none (.int k t) .none) (by simp)
 have hTs : s.TypeIs (.ref sl) "slice" := ⟨_, hos, rfl⟩
 refine slot_at hΓ F.slot_list_getitem ⟨_, ho, rfl⟩ F.entry_list_getitem (F.args_list_getitem_2 _ _) ?_
 show wpAny _ _ (Builtin.List.listSubscript? (.ref sl) >>= _) _ _ s
 refine wpAny_bind ?_
 unfold Builtin.List.listSubscript?
 refine wpAny_bind (wpAny_specialOf hTs slice_no_index ?_)
 simp only [Option.isNone_none, if_true]
 refine wpAny_pure ?_
 show wpAny _ _ (typeOf (.ref sl) >>= _) _ _ s
 refine wpAny_bind (wpAny_typeOf hTs ?_)
 rw [if_neg (by decide), listSliceParts_eq]
 refine wpAny_bind (wpAny_bind (wpAny_field hos rfl (x := .none) rfl (wpAny_bind (wpAny_listPart .none ?_))))
 rw [if_neg (by simp [rawPart, rawInt])]
 refine wpAny_bind (wpAny_field hos rfl (x := .none) rfl (wpAny_bind (wpAny_listPart .none ?_)))
 refine wpAny_bind (wpAny_field hos rfl (x := .int k t) rfl (wpAny_bind (wpAny_listPart (.int k t) (wpAny_pure ?_))))
 refine wpAny_bind (m := Builtin.List.listItems (.ref l)) ?_
 unfold Builtin.List.listItems
 refine wpAny_bind (wpAny_seqItems ho rfl (wpAny_pure ?_))
 refine wpAny_bind (wpAny_of_eq (sliceIndices_raw none (some k) none _ (by simp)) ?_)
 have hsz : (slicePick ⟨vs⟩ none (some k) none).size ≤ sizeLine := Nat.le_trans (slicePick_size_le _ _ _ _) (Nat.le_trans (show vs.length ≤ 1000 from hz) (by decide))
 refine wpAny_bind (wpAny_newObj_type (wpAny_pure ?_) hsz)
 have H2 := (H.nil).push (o := ⟨.type "list", none, .seq (slicePick ⟨vs⟩ none (some k) none) 0, #[]⟩) rfl
 exact hR _ _ H2 (beh_push _ _) (Heap.get?_none_of_le (Nat.le_refl _))
end
theorem slice12 {vs : List Value} (h : IsInts vs) : ∃ ws, slicePick ⟨vs⟩ none (some 12) none = ⟨ws⟩ ∧ IsInts ws ∧ ws.length ≤ 12 := by
 refine ⟨_, rfl, ?_, ?_⟩
 · intro v hv
   obtain ⟨i, _, hi⟩ := List.mem_filterMap.mp hv
   have hi' : vs[i]? = some v := by simpa using hi
   exact h v (List.mem_of_getElem? hi')
 · refine Nat.le_trans (List.length_filterMap_le _ _) ?_
   have e1 : (sliceBounds none (some 12) none (⟨vs⟩ : Array Value).size).1 = ((0 : Nat) : Int) := by simp [sliceBounds]
   have e2 : (sliceBounds none (some 12) none (⟨vs⟩ : Array Value).size).2.1 = ((min 12 vs.length : Nat) : Int) := by simp [sliceBounds]; omega
   have e3 : (sliceBounds none (some 12) none (⟨vs⟩ : Array Value).size).2.2 = 1 := by simp [sliceBounds]
   rw [e1, e2, e3, sliceRange_one]
   simp
   omega
theorem IsStrs.append : ∀ {vs ws : List Value} {ts us : List (List Nat)}, IsStrs vs ts → IsStrs ws us → IsStrs (vs ++ ws) (ts ++ us)
 | [], _, [], _, _, h => h
 | _ :: _, _, _ :: _, _, h, g => ⟨h.1, IsStrs.append h.2 g⟩
 | [], _, _ :: _, _, h, _ => h.elim
 | _ :: _, _, [], _, h, _ => h.elim
theorem IsStrs.length : ∀ {vs : List Value} {ts : List (List Nat)}, IsStrs vs ts → vs.length = ts.length
 | [], [], _ => rfl
 | _ :: _, _ :: _, h => congrArg (· + 1) (IsStrs.length h.2)
 | [], _ :: _, h => h.elim
 | _ :: _, [], h => h.elim
section
variable {w : World} {a b c : Bool} {s s1 : Shared} {sc u k0 k1 cc c1 it l i L B t : Nat} {nc : Option LpB} {vs ws : List Value} {law : Fm} {q p : Pos} {R : Result → Shared → Prop}
theorem fits_app {x : List Nat} {k : Nat} (h : x.length ≤ 1000) : fits ((⟨⟨x⟩⟩ : Str) ++ (⟨#[k]⟩ : Str)).length = true := by
 rw [app_tok]; exact fits_tok (by simp; omega)
theorem idx1_ok {vs : List Value} {v : Value} (h : vs.length ≤ 1000) : idxOk (-1) (vs ++ [v]).length = true := by
 unfold idxOk
 simp
 omega
theorem lp_body {n : Int} {cur : List Nat} {tv : Nat} {pv : List Value} (hn : nc = none → cur = []) (hl : cur.length ≤ 1000) (hv : pv.length ≤ 900)
   (H : HpW (W3 w a b c) s1.heap [(L, lpFr (W3 w a b c) sc u k0 k1 nc), (u, listO (pv ++ [.str ⟨⟨cur⟩⟩ tv]) c1), (it, itO l (i + 1))])
   (h0 : ∀ t', LpGo (W3 w a b c) R law q sc u k0 k1 cc it l (i + 1) L s1 (pv ++ [.str ⟨⟨cur⟩⟩ tv] ++ [.str ⟨#[]⟩ t']))
   (h1 : ∀ k t', LpGo (W3 w a b c) R law q sc u k0 k1 cc it l (i + 1) L s1 (pv ++ [.str ⟨⟨cur ++ [k]⟩⟩ t'])) :
   Mn (model prg (W3 w a b c)) R (cfΓ (rPT (W3 w a b c) s B sc u k0 k1 nc (pv ++ [.str ⟨⟨cur⟩⟩ tv]) cc it l i L law q p)) (cfp (rPT (W3 w a b c) s B sc u k0 k1 nc (pv ++ [.str ⟨⟨cur⟩⟩ tv]) cc it l i L law q p)) (cfκ (rPT (W3 w a b c) s B sc u k0 k1 nc (pv ++ [.str ⟨⟨cur⟩⟩ tv]) cc it l i L law q p)) (ansT (rPT (W3 w a b c) s B sc u k0 k1 nc (pv ++ [.str ⟨⟨cur⟩⟩ tv]) cc it l i L law q p) (.ok (.ret (.int n t)))) s1 := by
 have hd := divs_ok n
 have hr0 : 0 ≤ n.fmod 16 := Int.fmod_nonneg_of_pos n (by decide)
 have hr1 : n.fmod 16 < 16 := Int.fmod_lt_of_pos n (by decide)
 have hm0 : 0 ≤ (n.fdiv 16).fmod 1112064 := Int.fmod_nonneg_of_pos _ (by decide)
 have hm1 : (n.fdiv 16).fmod 1112064 < 1112064 := Int.fmod_lt_of_pos _ (by decide)
 have hi : idxOk (-1) (pv ++ [Value.str ⟨⟨cur⟩⟩ tv]).length = true := idx1_ok (by omega)
 by_cases c0 : n.fmod 16 = 0
 · have e0 : (n.fmod 16 == 0) = true := by simpa using c0
   have hf : fits (pv ++ [Value.str ⟨⟨cur⟩⟩ tv]).length = true := fits_of (by simp; omega)
   cases nc with
   | none => exact t0A hd e0 hf H (h0 _)
   | some z => obtain ⟨vn, vr, vm, kn, kr, km⟩ := z; exact t0B hd e0 hf H (h0 _)
 · have e0 : (n.fmod 16 == 0) = false := by simpa using c0
   by_cases c1 : n.fmod 16 < 15
   · have e1 : decide (n.fmod 16 < 15) = true := by simpa using c1
     have e2 : (fits (⟨#[39,39,39,9,13,10,35,35,97,45,34,92,32,59]⟩ : Str).length && decide (0 ≤ n.fmod 16 - 1) && decide (n.fmod 16 - 1 < (⟨#[39,39,39,9,13,10,35,35,97,45,34,92,32,59]⟩ : Str).length)) = true := by
       have hq : (⟨#[39,39,39,9,13,10,35,35,97,45,34,92,32,59]⟩ : Str).length = 14 := rfl
       rw [hq]
       simp only [Bool.and_eq_true, decide_eq_true_eq]
       refine ⟨⟨by decide, by omega⟩, by omega⟩
     cases nc with
     | none =>
       have := hn rfl
       subst this
       exact t1A hd e0 e1 hi e2 H (h1 _ _)
     | some z =>
       obtain ⟨vn, vr, vm, kn, kr, km⟩ := z
       cases cur with
       | nil => exact t1B hd e0 e1 hi e2 H (h1 _ _)
       | cons x0 xr =>
         refine t1C hd e0 e1 hi e2 (fits_app (by simpa using hl)) H ?_
         rw [app_tok]; exact h1 _ _
   · have e1 : decide (n.fmod 16 < 15) = false := by simpa using c1
     by_cases c2 : (n.fdiv 16).fmod 1112064 < 55296
     · have e2 : decide ((n.fdiv 16).fmod 1112064 < 55296) = true := by simpa using c2
       have e3 : (decide (0 ≤ (n.fdiv 16).fmod 1112064) && decide ((n.fdiv 16).fmod 1112064 ≤ 0x10FFFF)) = true := by
         simp only [Bool.and_eq_true, decide_eq_true_eq]; omega
       cases nc with
       | none =>
         have := hn rfl
         subst this
         exact t2A hd e0 e1 hi e2 e3 H (h1 _ _)
       | some z =>
         obtain ⟨vn, vr, vm, kn, kr, km⟩ := z
         cases cur with
         | nil => exact t2B hd e0 e1 hi e2 e3 H (h1 _ _)
         | cons x0 xr =>
           refine t2C hd e0 e1 hi e2 e3 (fits_app (by simpa using hl)) H ?_
           rw [app_tok]; exact h1 _ _
     · have e2 : decide ((n.fdiv 16).fmod 1112064 < 55296) = false := by simpa using c2
       have e3 : (decide (0 ≤ (n.fdiv 16).fmod 1112064 + 2048) && decide ((n.fdiv 16).fmod 1112064 + 2048 ≤ 0x10FFFF)) = true := by
         simp only [Bool.and_eq_true, decide_eq_true_eq]; omega
       cases nc with
       | none =>
         have := hn rfl
         subst this
         exact t3A hd e0 e1 hi e2 e3 H (h1 _ _)
       | some z =>
         obtain ⟨vn, vr, vm, kn, kr, km⟩ := z
         cases cur with
         | nil => exact t3B hd e0 e1 hi e2 e3 H (h1 _ _)
         | cons x0 xr =>
           refine t3C hd e0 e1 hi e2 e3 (fits_app (by simpa using hl)) H ?_
           rw [app_tok]; exact h1 _ _
end
noncomputable def LpDone (w : World) (R : Result → Shared → Prop) (L u it sc k0 k1 : Nat) (s₀ : Shared) : Prop :=
 ∀ s' nc vals ps c', IsStrs vals ps → ps ≠ [] → ps.length ≤ 13 → (∀ x ∈ ps, x.length ≤ 12) → HpW w s'.heap [(L, lpFr w sc u k0 k1 nc), (u, listO vals c')] → Beh [L, u, it] s₀ s' → Dead s₀ s' → R (.ok .next) s'
theorem lp_loop {w : World} {a b c : Bool} {s₀ : Shared} {sc u k0 k1 it l L : Nat} {ws : List Value} {law : Fm} {q : Pos} {R : Result → Shared → Prop} (hi : IsInts ws) (hw : ws.length ≤ 12) (K : LpDone (W3 w a b c) R L u it sc k0 k1 s₀) :
   ∀ (k i : Nat) (s : Shared) (p : Pos) (nc : Option LpB) (pv : List Value) (ps : List (List Nat)) (cur : List Nat) (tv c1 : Nat), i + k = ws.length → HpW (W3 w a b c) s.heap ([(L, lpFr (W3 w a b c) sc u k0 k1 nc), (u, listO (pv ++ [.str ⟨⟨cur⟩⟩ tv]) c1), (it, itO l i)] ++ [(l, listO ws 0)]) →
     (nc = none → cur = []) → IsStrs pv ps → ps.length ≤ i → (∀ x ∈ ps, x.length ≤ i) → cur.length ≤ i → Beh [L, u, it] s₀ s → Dead s₀ s → wpCode (model prg (W3 w a b c)) (gLPL it L law q) R p s := by
 intro k
 induction k with
 | zero =>
   intro i s p nc pv ps cur tv c1 hk H hn hs hp hx hc B0 D0
   refine lpt_start (Hp.part H) fun B s1 p1 h1 b1 => ?_
   have H1 := Hp.join H h1 b1 rfl
   have D1 : Dead s s1 := dead_of b1 fun z hz => hp_live h1 hz
   have H1p : HpW (W3 w a b c) s1.heap ([(it, itO l i), (l, listO ws 0)] ++ [(L, lpFr (W3 w a b c) sc u k0 k1 nc), (u, listO (pv ++ [.str ⟨⟨cur⟩⟩ tv]) c1)]) := Hp.swap (A := [(L, lpFr (W3 w a b c) sc u k0 k1 nc), (u, listO (pv ++ [.str ⟨⟨cur⟩⟩ tv]) c1)]) (C := [(it, itO l i), (l, listO ws 0)]) H1
   have hnone : ws[i]? = none := List.getElem?_eq_none (by omega)
   refine next_end rfl rfl (Hp.part H1p) hnone fun s2 e t h2 b2 de dt => ?_
   refine lpt_end (e := e) (t := t) (Hp.sub (by simp) h2) fun s3 h3 b3 => ?_
   have hi' : ∀ x ∈ [(L, lpFr (W3 w a b c) sc u k0 k1 nc), (u, listO (pv ++ [.str ⟨⟨cur⟩⟩ tv]) c1)], x.1 ∉ [it] := fun x hx hm => by
     have nd := H1p.sep
     simp only [List.map_append, List.map_cons, List.map_nil, List.cons_append, List.nil_append, List.nodup_cons, List.mem_cons, List.not_mem_nil, or_false, not_or] at nd
     simp only [List.mem_cons, List.not_mem_nil, or_false] at hx hm
     rcases hx with rfl | rfl
     · exact nd.1.2.1 hm.symm
     · exact nd.1.2.2 hm.symm
   have lv : ∀ x ∈ [(L, lpFr (W3 w a b c) sc u k0 k1 nc), (u, listO (pv ++ [.str ⟨⟨cur⟩⟩ tv]) c1)], x.1 ≠ e := fun x hx q => by
     have := H1p.own x (List.mem_append_right _ hx)
     rw [q, de] at this; cases this
   have HE := Hp.back H1p
   have H3 : HpW (W3 w a b c) s3.heap [(L, lpFr (W3 w a b c) sc u k0 k1 nc), (u, listO (pv ++ [.str ⟨⟨cur⟩⟩ tv]) c1)] :=
     ⟨h3.top, fun x hx => b3.keep _ _ (b2.keep _ _ (HE.own x hx) (hi' x hx)) (by simpa using lv x hx), HE.sep, HE.low, h3.big⟩
   have B3 : Beh [it] s1 s3 := ⟨fun z o g hz => b3.keep _ _ (b2.keep _ _ g hz) (by
     intro q
     rw [List.mem_singleton.mp q, de] at g; cases g), b3.gens.trans b2.gens, b3.drawn.trans b2.drawn, b3.os.trans b2.os⟩
   have D3 : Dead s1 s3 := (dead_of b2 fun z hz => hp_live h2 (by rw [List.mem_singleton.mp hz]; simp)).trans (dead_of b3 fun z hz => hp_live h3 (by rw [List.mem_singleton.mp hz]; simp))
   refine K s3 nc (pv ++ [.str ⟨⟨cur⟩⟩ tv]) (ps ++ [cur]) c1 (hs.append ⟨⟨tv, rfl⟩, trivial⟩) (by simp) (by simp; omega) ?_ H3 (Beh.trans (Beh.trans B0 b1 (fun z hz => hz)) B3 (by simp)) ((D0.trans D1).trans D3)
   intro x hx'
   rcases List.mem_append.mp hx' with h | h
   · exact Nat.le_trans (hx x h) (by omega)
   · rw [List.mem_singleton.mp h]; omega
 | succ k lp_ih =>
   intro i s p nc pv ps cur tv c1 hk H hn hs hp hx hc B0 D0
   refine lpt_start (Hp.part H) fun B s1 p1 h1 b1 => ?_
   have H1 := Hp.join H h1 b1 rfl
   have D1 : Dead s s1 := dead_of b1 fun z hz => hp_live h1 hz
   have H1p : HpW (W3 w a b c) s1.heap ([(it, itO l i), (l, listO ws 0)] ++ [(L, lpFr (W3 w a b c) sc u k0 k1 nc), (u, listO (pv ++ [.str ⟨⟨cur⟩⟩ tv]) c1)]) := Hp.swap (A := [(L, lpFr (W3 w a b c) sc u k0 k1 nc), (u, listO (pv ++ [.str ⟨⟨cur⟩⟩ tv]) c1)]) (C := [(it, itO l i), (l, listO ws 0)]) H1
   have hlt : i < ws.length := by omega
   obtain ⟨n, t, hv⟩ := hi ws[i] (List.getElem_mem hlt)
   have hsome : ws[i]? = some (.int n t) := by rw [List.getElem?_eq_getElem hlt, hv]
   refine next_item rfl (Hp.part H1p) hsome fun s2 h2 b2 => ?_
   have H2 := Hp.join (A := [(it, itO l i), (l, listO ws 0)]) (C := [(L, lpFr (W3 w a b c) sc u k0 k1 nc), (u, listO (pv ++ [.str ⟨⟨cur⟩⟩ tv]) c1)]) H1p h2 (Beh.widen b2 (by simp)) rfl
   have H2p : HpW (W3 w a b c) s2.heap ([(L, lpFr (W3 w a b c) sc u k0 k1 nc), (u, listO (pv ++ [.str ⟨⟨cur⟩⟩ tv]) c1), (it, itO l (i + 1))] ++ [(l, listO ws 0)]) := Hp.swap (A := [(it, itO l (i + 1)), (l, listO ws 0)]) (C := [(L, lpFr (W3 w a b c) sc u k0 k1 nc), (u, listO (pv ++ [.str ⟨⟨cur⟩⟩ tv]) c1)]) H2
   have D2 : Dead s1 s2 := dead_of b2 fun z hz => hp_live h2 (by rw [List.mem_singleton.mp hz]; simp)
   have hlen := hs.length
   have next : ∀ (pv' : List Value) (ps' : List (List Nat)) (cur' : List Nat) (t' : Nat), IsStrs pv' ps' → ps'.length ≤ i + 1 → (∀ x ∈ ps', x.length ≤ i + 1) → cur'.length ≤ i + 1 → LpGo (W3 w a b c) R law q sc u k0 k1 c1 it l (i + 1) L s2 (pv' ++ [.str ⟨⟨cur'⟩⟩ t']) := by
     intro pv' ps' cur' t' g1 g2 g3 g4 s3 p3 nb c3 h3 b3
     have H3 := Hp.join H2p h3 b3 rfl
     exact lp_ih (i + 1) s3 p3 (some nb) pv' ps' cur' t' c3 (by omega) H3 (fun h => nomatch h) g1 g2 g3 g4
       (Beh.trans (Beh.trans (Beh.trans B0 b1 (fun z hz => hz)) b2 (by simp)) b3 (fun z hz => hz)) (((D0.trans D1).trans D2).trans (dead_of b3 fun z hz => hp_live h3 hz))
   refine lp_body hn (by omega) (by omega) (Hp.part H2p) (fun t' => ?_) (fun ch t' => ?_)
   · exact next (pv ++ [.str ⟨⟨cur⟩⟩ tv]) (ps ++ [cur]) [] t' (hs.append ⟨⟨tv, rfl⟩, trivial⟩) (by simp; omega) (fun x hx' => by
       rcases List.mem_append.mp hx' with h | h
       · exact Nat.le_succ_of_le (hx x h)
       · rw [List.mem_singleton.mp h]; omega) (Nat.zero_le _)
   · exact next pv ps (cur ++ [ch]) t' hs (by omega) (fun x h => Nat.le_succ_of_le (hx x h)) (by simp; omega)
noncomputable def LpK (w : World) (R : Result → Shared → Prop) (sc : Nat) (s : Shared) : Prop :=
 ∀ s' u vals ps c', IsStrs vals ps → ps ≠ [] → ps.length ≤ 13 → (∀ x ∈ ps, x.length ≤ 12) → s.heap.get? u = none → HpW w s'.heap [(u, listO vals c')] → Beh [] s s' → Dead s s' → R (.ok (.ret (.ref u))) s'
theorem lp_spec {w : World} {a b c : Bool} {s : Shared} {sc cc : Nat} {vs : List Value} {law : Fm} {q p : Pos} {R : Result → Shared → Prop} (H : HpW (W3 w a b c) s.heap [(sc, listO vs cc)]) (hi : IsInts vs) (hl : vs.length ≤ 1000) (hR : LpK (W3 w a b c) R sc s) :
   wpCode (model prg (W3 w a b c)) (gLP sc law q) R p s := by
 refine lp_start H fun B s1 p1 hB h1 b1 => ?_
 have d1 : Dead s s1 := dead_of b1 fun z hz => hp_live h1 (by rw [List.mem_singleton.mp hz]; simp)
 have dN : ∀ j : Nat, 1 ≤ j → s.heap.get? (B + j) = none := fun j hj => Heap.get?_none_of_le (by omega)
 have hcut : HpW (W3 w a b c) s1.heap [(sc, listO vs cc), (B + 3, slO .none (.int 12 (s.toks + 3)) .none)] := Hp.sub ((((List.Sublist.refl _).cons _).cons _).cons_cons _) h1
 refine list_cut (t := s.toks + 3) rfl hcut hl fun s2 l h2 b2 dl => ?_
 obtain ⟨ws, ew, hwi, hwl⟩ := slice12 hi
 rw [ew] at h2
 have H2 := Hp.new (N := [(l, listO ws 0)]) h1 h2 b2 (fun x hx => by rw [List.mem_singleton.mp hx]; exact dl)
 have H2' : HpW (W3 w a b c) s2.heap [(sc, listO vs cc), (B + 1, lpFr (W3 w a b c) sc (B + 2) s.toks (s.toks + 2) none), (B + 2, listO [.str ⟨#[]⟩ (s.toks + 1)] 0), (l, listO ws 0)] := by
   refine Hp.sub ?_ (Hp.perm H2 (L' := [(sc, listO vs cc), (B + 1, lpFr (W3 w a b c) sc (B + 2) s.toks (s.toks + 2) none), (B + 2, listO [.str ⟨#[]⟩ (s.toks + 1)] 0), (l, listO ws 0), (B + 3, slO .none (.int 12 (s.toks + 3)) .none)]) ?_)
   · simp
   · exact (List.perm_middle (l₁ := [(sc, listO vs cc), (B + 1, lpFr (W3 w a b c) sc (B + 2) s.toks (s.toks + 2) none), (B + 2, listO [.str ⟨#[]⟩ (s.toks + 1)] 0)]) (a := (l, listO ws 0)) (l₂ := [(B + 3, slO .none (.int 12 (s.toks + 3)) .none)])).symm
 have d2 : Dead s1 s2 := dead_nil b2
 refine lp_mid H2' fun B1 s3 p3 hB1 h3 b3 => ?_
 have d3 : Dead s2 s3 := dead_of b3 fun z hz => hp_live h3 (by simp only [List.mem_cons, List.not_mem_nil, or_false] at hz; rcases hz with h | h | h | h <;> simp [h])
 have hl' : s.heap.get? l = none := d1 _ dl
 have hit : s.heap.get? (B1 + 4) = none := d1 _ (d2 _ (Heap.get?_none_of_le (by omega)))
 have H3 : HpW (W3 w a b c) s3.heap ([(B + 1, lpFr (W3 w a b c) sc (B + 2) s.toks (s.toks + 2) none), (B + 2, listO ([] ++ [.str ⟨⟨[]⟩⟩ (s.toks + 1)]) 0), (B1 + 4, itO l 0)] ++ [(l, listO ws 0)]) := by
   refine Hp.perm (Hp.sub (L' := [(B + 1, lpFr (W3 w a b c) sc (B + 2) s.toks (s.toks + 2) none), (B + 2, listO [.str ⟨#[]⟩ (s.toks + 1)] 0), (l, listO ws 0), (B1 + 4, itO l 0)]) ?_ h3) ?_
   · exact List.sublist_cons_self _ _
   · exact (List.Perm.swap _ _ _).cons _ |>.cons _
 refine lp_loop (s₀ := s3) hwi hwl ?_ ws.length 0 s3 p3 none [] [] [] (s.toks + 1) 0 (by omega) H3 (fun _ => rfl) trivial (Nat.le_refl _) (by simp) (Nat.le_refl _) (Beh.refl _ _) (Dead.refl _)
 intro s4 nc vals ps c4 hs h0 hp hx h4 b4 d4
 show Mn _ _ _ _ _ _ _
 refine lp_fin (nc := nc) (Hp.sub (by simp) h4) fun s5 b5 h5 => ?_
 have hu : HpW (W3 w a b c) s5.heap [(B + 2, listO vals c4)] := by
   have h4' : HpW (W3 w a b c) s4.heap ([(B + 1, lpFr (W3 w a b c) sc (B + 2) s.toks (s.toks + 2) nc)] ++ [(B + 2, listO vals c4)]) := h4
   exact ⟨h5.top, fun x hx => by
     rw [List.mem_singleton.mp hx]
     exact b5.keep _ _ (h4'.own (B + 2, listO vals c4) (by simp)) (by simp), by simp, fun x hx => by rw [List.mem_singleton.mp hx]; exact h4'.low (B + 2, listO vals c4) (by simp), h5.big⟩
 have bT : Beh [] s s5 := by
   refine ⟨fun z o g _ => ?_, (b5.gens.trans b4.gens).trans (b3.gens.trans (b2.gens.trans b1.gens)), (b5.drawn.trans b4.drawn).trans (b3.drawn.trans (b2.drawn.trans b1.drawn)), (b5.os.trans b4.os).trans (b3.os.trans (b2.os.trans b1.os))⟩
   have ne : ∀ y : Nat, s.heap.get? y = none → z ≠ y := fun y hy q => by rw [q, hy] at g; cases g
   have n1 := ne _ (dN 1 (by omega))
   have n2 := ne _ (dN 2 (by omega))
   have n3 := ne _ hl'
   have n4 := ne _ hit
   have g3 : s3.heap.get? z = some o := by
     by_cases n0 : z = sc
     · rw [n0, H.own (sc, listO vs cc) (by simp)] at g
       rw [n0, ← Option.some.inj g]
       exact h3.own (sc, listO vs cc) (by simp)
     · exact b3.keep _ _ (b2.keep _ _ (b1.keep _ _ g (by simpa using n0)) (by simp)) (by simp [n0, n1, n2, n3])
   exact b5.keep _ _ (b4.keep _ _ g3 (by simp [n1, n2, n4])) (by simp [n1])
 refine hR s5 (B + 2) vals ps c4 hs h0 hp hx (dN 2 (by omega)) hu bT ?_
 exact (((d1.trans d2).trans d3).trans d4).trans (dead_of b5 fun z hz => hp_live h5 hz)
end Mine
end
section
namespace Mine
open PySem PySem.W
structure SM where
 law : Fm
 v : Lp
 m : Lp
 q : Pos
noncomputable def SM.l (x : SM) : List (Code × Pos) := [x.m.f, x.v.f, x.law.c, (.builtin "claim.caller" {}, x.q)]
noncomputable def ifOf : Option Stmt → List Stmt × List Stmt
 | some (.If _ b o _) => (b, o)
 | _ => ([], [])
noncomputable def retJ : Option Stmt → List Expr
 | some (.Return (some (.JoinedStr vs _)) _) => vs
 | _ => []
noncomputable def retE : Option Stmt → Expr
 | some (.Return (some e) _) => e
 | _ => .Constant .none 0 ⟨0,0,0,0⟩
noncomputable def fpDef : Dft := topDef 5
noncomputable def fpIn : List Stmt × List Stmt := ifOf (nth (ifOf (nth fpDef.2.1 0)).1 0)
noncomputable def fpJ1 : Expr := retE (nth fpIn.1 1)
noncomputable def fpJ2 : Expr := retE (nth fpIn.2 0)
noncomputable def envFP (L : Nat) : Env := { scope := fpDef.2.2, locals := L, globals := 3, cells := [], qual := ⟨#[95,102,111,114,109,97,116,112,97,114,97,109,46,60,108,111,99,97,108,115,62,46]⟩, func := some 57, code := .ref 56, frame := some L, builtins := 0 }
noncomputable abbrev cFP (P : Str) (tP : Nat) (V : Str) (tV : Nat) (k : Int) (tk : Nat) : Code := .call (.ref 57) ⟨[.str P tP, .str V tV, .int k tk], []⟩
noncomputable abbrev gFP (P : Str) (tP : Nat) (V : Str) (tV : Nat) (k : Int) (tk : Nat) (x : SM) : Ctx := ⟨cFP P tP V tV k tk, none, none, x.l, none⟩
noncomputable def fpFr (w : World) (t : Nat) (P : Str) (tP : Nat) (V : Str) (tV : Nat) (k : Int) (tk : Nat) : Obj := ⟨.type "frame", none, .dict #[⟨hs w #[112,97,114,97,109], .str ⟨#[112,97,114,97,109]⟩ t, .str P tP⟩,⟨hs w #[118,97,108,117,101], .str ⟨#[118,97,108,117,101]⟩ (t + 1), .str V tV⟩,⟨hs w #[113,117,111,116,101], .str ⟨#[113,117,111,116,101]⟩ (t + 2), .int k tk⟩] 3, #[]⟩
noncomputable abbrev retT (env : Env) (m : Sem Value) : Sem Fin :=
 PySem.W.R.bindR (PySem.W.R.onRaiseR (PySem.W.R.bindR (PySem.W.R.bindR (PySem.W.R.bindR (PySem.W.R.bindR m fun x => Sem.pure (Flow.ret x)) (kNext [] env)) (kNext [] env)) (kNext [] env)) (Fast.tw9442747609961115081 env)) fR
noncomputable abbrev jpT (out : Str) (l : List (Sem Value)) : Sem Value := Fast.tw489454228952312664 out l
theorem jp_step {out y : Str} {t : Nat} {l : List (Sem Value)} (h : out.length + y.length ≤ sizeLine) : jpT out (Sem.pure (.str y t) :: l) = jpT (out ++ y) l := by
 show Fast.tw489454228952312664 _ _ = Fast.tw489454228952312664 _ _
 rw [← Fast.te489454228952312664, joinParts]
 show (if out.length + y.length > sizeLine then _ else _ : Sem Value) = _
 rw [if_neg (Nat.not_lt.mpr h)]
end Mine
end
section
namespace Mine
open PySem PySem.W
noncomputable def mtO (V : Str) (tV pat : Nat) (i j k : Value) : Obj := ⟨.type "re.Match", none, .fields #[.str V tV, .ref pat, .int 0 0, i, j, k], #[]⟩
noncomputable def rA1 (w : World) (s : Shared) (B : Nat) (P : Str) (tP : Nat) (V : Str) (tV : Nat) (tk : Nat) (x : SM) (p : Pos) : Option Out := rn w s B [] 51 (gFP P tP V tV 1 tk x) p [] (den (cFP P tP V tV 1 tk)) 324605422534353563688238441562112 [(fits V.length, true), (decide ((V.length : Int) > 0), true)]
noncomputable def rA2 (w : World) (s : Shared) (B : Nat) (P : Str) (tP : Nat) (V : Str) (tV : Nat) (tk : Nat) (x : SM) (p : Pos) (s1 : Shared) (B1 : Nat) (V1 : Str) (t1 : Nat) : Option Out :=
 rn w s1 B1 [(B, fpFr w s.toks P tP V tV 1 tk)] 6 (cfΓ (rA1 w s B P tP V tV tk x p)) (cfp (rA1 w s B P tP V tV tk x p)) (cfκ (rA1 w s B P tP V tV tk x p)) (ansT (rA1 w s B P tP V tV tk x p) (.ok (.ret (.str V1 t1)))) 0 []
noncomputable def rC1 (w : World) (s : Shared) (B : Nat) (P : Str) (tP : Nat) (V : Str) (tV : Nat) (tk : Nat) (x : SM) (p : Pos) : Option Out := rn w s B [] 56 (gFP P tP V tV 0 tk x) p [] (den (cFP P tP V tV 0 tk)) 348449143727127855462422434915213069516800 [(fits V.length, true), (decide ((V.length : Int) > 0), true)]
noncomputable def rC2 (w : World) (s : Shared) (B : Nat) (P : Str) (tP : Nat) (V : Str) (tV : Nat) (tk : Nat) (x : SM) (p : Pos) (s1 : Shared) (B1 : Nat) (m : Nat) (mo : Obj) : Option Out :=
 rn w s1 B1 [(B, fpFr w s.toks P tP V tV 0 tk), (m, mo)] 12 (pΓ (cfκ (rC1 w s B P tP V tV tk x p))) (pp (cfκ (rC1 w s B P tP V tV tk x p))) (pκ (cfκ (rC1 w s B P tP V tV tk x p))) (pT (cfκ (rC1 w s B P tP V tV tk x p)) (.ok (.ret (.ref m)))) 4226 []
noncomputable def rC3 (w : World) (s : Shared) (B : Nat) (P : Str) (tP : Nat) (V : Str) (tV : Nat) (tk : Nat) (x : SM) (p : Pos) (s1 : Shared) (B1 : Nat) (m : Nat) (mo : Obj) (s2 : Shared) (B2 : Nat) (V1 : Str) (t1 : Nat) : Option Out :=
 rn w s2 B2 [(B, fpFr w s.toks P tP V tV 0 tk)] 6 (cfΓ (rC2 w s B P tP V tV tk x p s1 B1 m mo)) (cfp (rC2 w s B P tP V tV tk x p s1 B1 m mo)) (cfκ (rC2 w s B P tP V tV tk x p s1 B1 m mo)) (ansT (rC2 w s B P tP V tV tk x p s1 B1 m mo) (.ok (.ret (.str V1 t1)))) 0 []
section
variable {w : World} {a b c : Bool} {s s1 s2 s3 : Shared} {B B1 B2 : Nat} {P V V1 V2 : Str} {tP tV tk t1 t2 m : Nat} {i j k : Value} {x : SM} {p : Pos} {R : Result → Shared → Prop}
theorem fpE {k : Int} (hk : k = 0 ∨ k = 1) (H : HpW (W3 w a b c) s.heap []) (hR : ∀ s', Beh [] s s' → HpW (W3 w a b c) s'.heap [] → R (.ok (.ret (.str P tP))) s') : wpCode (model prg (W3 w a b c)) (gFP P tP ⟨#[]⟩ tV k tk x) R p s := by
 rcases hk with rfl | rfl
 · refine code_mn (c := cFP P tP ⟨#[]⟩ tV 0 tk) rfl (sn_ok H 39 86868875926836905082420985856 [(true, true), (false, false)] [] (fun _ => []) (fun _ => .ret (.str P tP)) ?_ rfl (by decide) ?_ ?_)
   · exact dsC rfl (dsC rfl dsN)
   · cases a <;> (intro B; kernel_rfl)
   · exact fun B s' _ h1 b1 => hR s' b1 h1
 · refine code_mn (c := cFP P tP ⟨#[]⟩ tV 1 tk) rfl (sn_ok H 39 86868875926836905082420985856 [(true, true), (false, false)] [] (fun _ => []) (fun _ => .ret (.str P tP)) ?_ rfl (by decide) ?_ ?_)
   · exact dsC rfl (dsC rfl dsN)
   · cases a <;> (intro B; kernel_rfl)
   · exact fun B s' _ h1 b1 => hR s' b1 h1
theorem fpA1 (hl : fits V.length = true) (h0 : decide ((V.length : Int) > 0) = true) (H : HpW (W3 w a b c) s.heap [])
   (K : ∀ B s' p', s.heap.objs.size = B → HpW (W3 w a b c) s'.heap [(B, fpFr (W3 w a b c) s.toks P tP V tV 1 tk)] → Beh [] s s' → s'.toks = s.toks + 8 → wpCode (model prg (W3 w a b c)) ⟨.call (.builtin "str.replace") ⟨[.str V tV, .str ⟨#[92]⟩ (s.toks + 6), .str ⟨#[92,92]⟩ (s.toks + 7)], []⟩, none, none, (.func fpDef.2.1 (envFP B), ⟨11,20,11,47⟩) :: x.l, none⟩ (fun r s'' => Mn (model prg (W3 w a b c)) R (cfΓ (rA1 (W3 w a b c) s B P tP V tV tk x p)) (cfp (rA1 (W3 w a b c) s B P tP V tV tk x p)) (cfκ (rA1 (W3 w a b c) s B P tP V tV tk x p)) (ansT (rA1 (W3 w a b c) s B P tP V tV tk x p) r) s'') p' s') :
   wpCode (model prg (W3 w a b c)) (gFP P tP V tV 1 tk x) R p s := by
 refine code_mn (c := cFP P tP V tV 1 tk) rfl (sn_callT H 51 324605422534353563688238441562112 [(fits V.length, true), (decide ((V.length : Int) > 0), true)] [0] (fun B => [fpFr (W3 w a b c) s.toks P tP V tV 1 tk]) (fun B => ⟨.call (.builtin "str.replace") ⟨[.str V tV, .str ⟨#[92]⟩ (s.toks + 6), .str ⟨#[92,92]⟩ (s.toks + 7)], []⟩, none, none, (.func fpDef.2.1 (envFP B), ⟨11,20,11,47⟩) :: x.l, none⟩) true 8 ?_ ?_ (by decide) ?_ ?_ ?_)
 · exact dsC hl (dsC h0 dsN)
 · rfl
 · cases a <;> (intro B; kernel_rfl)
 · cases a <;> (intro B; kernel_rfl)
 · exact fun B s' p' hB h1 b1 ht => K B s' p' hB h1 b1 ht
theorem fpA2 (H : HpW (W3 w a b c) s1.heap [(B, fpFr (W3 w a b c) s.toks P tP V tV 1 tk)])
   (K : ∀ B1 s' p', HpW (W3 w a b c) s'.heap [(B, fpFr (W3 w a b c) s.toks P tP V tV 1 tk)] → Beh [B] s1 s' → wpCode (model prg (W3 w a b c)) ⟨.call (.builtin "str.replace") ⟨[.str V1 t1,.str ⟨#[34]⟩ s1.toks, .str ⟨#[92,34]⟩ (s1.toks + 1)], []⟩, none, none, (.func fpDef.2.1 (envFP B), ⟨11,20,11,67⟩) :: x.l, none⟩ (fun r s'' => Mn (model prg (W3 w a b c)) R (cfΓ (rA2 (W3 w a b c) s B P tP V tV tk x p s1 B1 V1 t1)) (cfp (rA2 (W3 w a b c) s B P tP V tV tk x p s1 B1 V1 t1)) (cfκ (rA2 (W3 w a b c) s B P tP V tV tk x p s1 B1 V1 t1)) (ansT (rA2 (W3 w a b c) s B P tP V tV tk x p s1 B1 V1 t1) r) s'') p' s') :
   Mn (model prg (W3 w a b c)) R (cfΓ (rA1 (W3 w a b c) s B P tP V tV tk x p)) (cfp (rA1 (W3 w a b c) s B P tP V tV tk x p)) (cfκ (rA1 (W3 w a b c) s B P tP V tV tk x p)) (ansT (rA1 (W3 w a b c) s B P tP V tV tk x p) (.ok (.ret (.str V1 t1)))) s1 := by
 refine sn_call H 6 0 [] [0] (fun _ => [fpFr (W3 w a b c) s.toks P tP V tV 1 tk]) (fun _ => ⟨.call (.builtin "str.replace") ⟨[.str V1 t1,.str ⟨#[34]⟩ s1.toks, .str ⟨#[92,34]⟩ (s1.toks + 1)], []⟩, none, none, (.func fpDef.2.1 (envFP B), ⟨11,20,11,67⟩) :: x.l, none⟩) true dsN ?_ (by decide) ?_ ?_
 · rfl
 · cases a <;> (intro B1; kernel_rfl)
 · exact fun B1 s' p' hB h1 b1 => K B1 s' p' h1 b1
theorem fpA3  (H : HpW (W3 w a b c) s3.heap [(B, fpFr (W3 w a b c) s.toks P tP V tV 1 tk)])
   (K : ∀ s' p', HpW (W3 w a b c) s'.heap [(B, fpFr (W3 w a b c) s.toks P tP V2 t2 1 tk)] → Beh [B] s3 s' → Mn (model prg (W3 w a b c)) R ⟨.func fpDef.2.1 (envFP B), none, none, x.l, none⟩ p' [] (retT (envFP B) (Fast.tw14044960220447912780 fpJ1 (envFP B))) s') :
   Mn (model prg (W3 w a b c)) R (cfΓ (rA2 (W3 w a b c) s B P tP V tV tk x p s1 B1 V1 t1)) (cfp (rA2 (W3 w a b c) s B P tP V tV tk x p s1 B1 V1 t1)) (cfκ (rA2 (W3 w a b c) s B P tP V tV tk x p s1 B1 V1 t1)) (ansT (rA2 (W3 w a b c) s B P tP V tV tk x p s1 B1 V1 t1) (.ok (.ret (.str V2 t2)))) s3 := by
 refine sn_at H 9 266305 [] [0] (fun _ => [fpFr (W3 w a b c) s.toks P tP V2 t2 1 tk]) (fun _ => ⟨.func fpDef.2.1 (envFP B), none, none, x.l, none⟩) (fun _ => retT (envFP B) (Fast.tw14044960220447912780 fpJ1 (envFP B))) dsN ?_ (by decide) ?_ ?_ ?_ ?_
 · rfl
 · cases a <;> (intro B2; kernel_rfl)
 · cases a <;> (intro B2; kernel_rfl)
 · cases a <;> (intro B2; kernel_rfl)
 · exact fun B2 s' p' hB h1 b1 => K s' p' h1 b1
theorem fpC1 (hl : fits V.length = true) (h0 : decide ((V.length : Int) > 0) = true) (H : HpW (W3 w a b c) s.heap [])
   (K : ∀ B s' p', s.heap.objs.size = B → HpW (W3 w a b c) s'.heap [(B, fpFr (W3 w a b c) s.toks P tP V tV 0 tk)] → Beh [] s s' → s'.toks = s.toks + 6 → wpCode (model prg (W3 w a b c)) ⟨.builtin "re.Pattern.search" ⟨[.ref 49,.str V tV], []⟩, none, none, (.func fpDef.2.1 (envFP B), ⟨10,20,10,43⟩) :: x.l, none⟩ (fun r s'' => Mn (model prg (W3 w a b c)) R (pΓ (cfκ (rC1 (W3 w a b c) s B P tP V tV tk x p))) (pp (cfκ (rC1 (W3 w a b c) s B P tP V tV tk x p))) (pκ (cfκ (rC1 (W3 w a b c) s B P tP V tV tk x p))) (pT (cfκ (rC1 (W3 w a b c) s B P tP V tV tk x p)) r) s'') p' s') :
   wpCode (model prg (W3 w a b c)) (gFP P tP V tV 0 tk x) R p s := by
 refine code_mn (c := cFP P tP V tV 0 tk) rfl (sn_gotoT H 56 348449143727127855462422434915213069516800 [(fits V.length, true), (decide ((V.length : Int) > 0), true)] [0] (fun B => [fpFr (W3 w a b c) s.toks P tP V tV 0 tk]) (fun B => ⟨.builtin "re.Pattern.search" ⟨[.ref 49,.str V tV], []⟩, none, none, (.func fpDef.2.1 (envFP B), ⟨10,20,10,43⟩) :: x.l, none⟩) 6 ?_ ?_ (by decide) ?_ ?_ ?_)
 · exact dsC hl (dsC h0 dsN)
 · rfl
 · cases a <;> (intro B; kernel_rfl)
 · cases a <;> (intro B; kernel_rfl)
 · exact fun B s' p' hB h1 b1 ht => K B s' p' hB h1 b1 ht
theorem fpCn (H : HpW (W3 w a b c) s1.heap [(B, fpFr (W3 w a b c) s.toks P tP V tV 0 tk)])
   (K : ∀ s' p', HpW (W3 w a b c) s'.heap [(B, fpFr (W3 w a b c) s.toks P tP V tV 0 tk)] → Beh [B] s1 s' → Mn (model prg (W3 w a b c)) R ⟨.func fpDef.2.1 (envFP B), none, none, x.l, none⟩ p' [] (retT (envFP B) (Fast.tw14044960220447912780 fpJ2 (envFP B))) s') :
   Mn (model prg (W3 w a b c)) R (pΓ (cfκ (rC1 (W3 w a b c) s B P tP V tV tk x p))) (pp (cfκ (rC1 (W3 w a b c) s B P tP V tV tk x p))) (pκ (cfκ (rC1 (W3 w a b c) s B P tP V tV tk x p))) (pT (cfκ (rC1 (W3 w a b c) s B P tP V tV tk x p)) (.ok (.ret .none))) s1 := by
 refine sn_at H 3 65 [] [0] (fun _ => [fpFr (W3 w a b c) s.toks P tP V tV 0 tk]) (fun _ => ⟨.func fpDef.2.1 (envFP B), none, none, x.l, none⟩) (fun _ => retT (envFP B) (Fast.tw14044960220447912780 fpJ2 (envFP B))) dsN ?_ (by decide) ?_ ?_ ?_ ?_
 · rfl
 · cases a <;> (intro B2; kernel_rfl)
 · cases a <;> (intro B2; kernel_rfl)
 · cases a <;> (intro B2; kernel_rfl)
 · exact fun B2 s' p' hB h1 b1 => K s' p' h1 b1
theorem fpC2 (H : HpW (W3 w a b c) s1.heap [(B, fpFr (W3 w a b c) s.toks P tP V tV 0 tk), (m, mtO V tV 49 i j k)])
   (K : ∀ B1 s' p', HpW (W3 w a b c) s'.heap [(B, fpFr (W3 w a b c) s.toks P tP V tV 0 tk)] → Beh [B, m] s1 s' → s'.toks = s1.toks + 2 → wpCode (model prg (W3 w a b c)) ⟨.call (.builtin "str.replace") ⟨[.str V tV, .str ⟨#[92]⟩ s1.toks, .str ⟨#[92,92]⟩ (s1.toks + 1)], []⟩, none, none, (.func fpDef.2.1 (envFP B), ⟨11,20,11,47⟩) :: x.l, none⟩ (fun r s'' => Mn (model prg (W3 w a b c)) R (cfΓ (rC2 (W3 w a b c) s B P tP V tV tk x p s1 B1 m (mtO V tV 49 i j k))) (cfp (rC2 (W3 w a b c) s B P tP V tV tk x p s1 B1 m (mtO V tV 49 i j k))) (cfκ (rC2 (W3 w a b c) s B P tP V tV tk x p s1 B1 m (mtO V tV 49 i j k))) (ansT (rC2 (W3 w a b c) s B P tP V tV tk x p s1 B1 m (mtO V tV 49 i j k)) r) s'') p' s') :
   Mn (model prg (W3 w a b c)) R (pΓ (cfκ (rC1 (W3 w a b c) s B P tP V tV tk x p))) (pp (cfκ (rC1 (W3 w a b c) s B P tP V tV tk x p))) (pκ (cfκ (rC1 (W3 w a b c) s B P tP V tV tk x p))) (pT (cfκ (rC1 (W3 w a b c) s B P tP V tV tk x p)) (.ok (.ret (.ref m)))) s1 := by
 refine sn_callT H 12 4226 [] [0] (fun _ => [fpFr (W3 w a b c) s.toks P tP V tV 0 tk]) (fun _ => ⟨.call (.builtin "str.replace") ⟨[.str V tV, .str ⟨#[92]⟩ s1.toks, .str ⟨#[92,92]⟩ (s1.toks + 1)], []⟩, none, none, (.func fpDef.2.1 (envFP B), ⟨11,20,11,47⟩) :: x.l, none⟩) true 2 dsN ?_ (by decide) ?_ ?_ ?_
 · rfl
 · cases a <;> (intro B1; kernel_rfl)
 · cases a <;> (intro B1; kernel_rfl)
 · exact fun B1 s' p' hB h1 b1 ht => K B1 s' p' h1 b1 ht
theorem fpC3 (H : HpW (W3 w a b c) s2.heap [(B, fpFr (W3 w a b c) s.toks P tP V tV 0 tk)])
   (K : ∀ B2 s' p', HpW (W3 w a b c) s'.heap [(B, fpFr (W3 w a b c) s.toks P tP V tV 0 tk)] → Beh [B] s2 s' → wpCode (model prg (W3 w a b c)) ⟨.call (.builtin "str.replace") ⟨[.str V1 t1,.str ⟨#[34]⟩ s2.toks, .str ⟨#[92,34]⟩ (s2.toks + 1)], []⟩, none, none, (.func fpDef.2.1 (envFP B), ⟨11,20,11,67⟩) :: x.l, none⟩ (fun r s'' => Mn (model prg (W3 w a b c)) R (cfΓ (rC3 (W3 w a b c) s B P tP V tV tk x p s1 B1 m (mtO V tV 49 i j k) s2 B2 V1 t1)) (cfp (rC3 (W3 w a b c) s B P tP V tV tk x p s1 B1 m (mtO V tV 49 i j k) s2 B2 V1 t1)) (cfκ (rC3 (W3 w a b c) s B P tP V tV tk x p s1 B1 m (mtO V tV 49 i j k) s2 B2 V1 t1)) (ansT (rC3 (W3 w a b c) s B P tP V tV tk x p s1 B1 m (mtO V tV 49 i j k) s2 B2 V1 t1) r) s'') p' s') :
   Mn (model prg (W3 w a b c)) R (cfΓ (rC2 (W3 w a b c) s B P tP V tV tk x p s1 B1 m (mtO V tV 49 i j k))) (cfp (rC2 (W3 w a b c) s B P tP V tV tk x p s1 B1 m (mtO V tV 49 i j k))) (cfκ (rC2 (W3 w a b c) s B P tP V tV tk x p s1 B1 m (mtO V tV 49 i j k))) (ansT (rC2 (W3 w a b c) s B P tP V tV tk x p s1 B1 m (mtO V tV 49 i j k)) (.ok (.ret (.str V1 t1)))) s2 := by
 refine sn_call H 6 0 [] [0] (fun _ => [fpFr (W3 w a b c) s.toks P tP V tV 0 tk]) (fun _ => ⟨.call (.builtin "str.replace") ⟨[.str V1 t1,.str ⟨#[34]⟩ s2.toks, .str ⟨#[92,34]⟩ (s2.toks + 1)], []⟩, none, none, (.func fpDef.2.1 (envFP B), ⟨11,20,11,67⟩) :: x.l, none⟩) true dsN ?_ (by decide) ?_ ?_
 · rfl
 · cases a <;> (intro B2; kernel_rfl)
 · exact fun B2 s' p' hB h1 b1 => K B2 s' p' h1 b1
theorem fpC4  (H : HpW (W3 w a b c) s3.heap [(B, fpFr (W3 w a b c) s.toks P tP V tV 0 tk)])
   (K : ∀ s' p', HpW (W3 w a b c) s'.heap [(B, fpFr (W3 w a b c) s.toks P tP V2 t2 0 tk)] → Beh [B] s3 s' → Mn (model prg (W3 w a b c)) R ⟨.func fpDef.2.1 (envFP B), none, none, x.l, none⟩ p' [] (retT (envFP B) (Fast.tw14044960220447912780 fpJ1 (envFP B))) s') :
   Mn (model prg (W3 w a b c)) R (cfΓ (rC3 (W3 w a b c) s B P tP V tV tk x p s1 B1 m (mtO V tV 49 i j k) s2 B2 V1 t1)) (cfp (rC3 (W3 w a b c) s B P tP V tV tk x p s1 B1 m (mtO V tV 49 i j k) s2 B2 V1 t1)) (cfκ (rC3 (W3 w a b c) s B P tP V tV tk x p s1 B1 m (mtO V tV 49 i j k) s2 B2 V1 t1)) (ansT (rC3 (W3 w a b c) s B P tP V tV tk x p s1 B1 m (mtO V tV 49 i j k) s2 B2 V1 t1) (.ok (.ret (.str V2 t2)))) s3 := by
 refine sn_at H 9 266305 [] [0] (fun _ => [fpFr (W3 w a b c) s.toks P tP V2 t2 0 tk]) (fun _ => ⟨.func fpDef.2.1 (envFP B), none, none, x.l, none⟩) (fun _ => retT (envFP B) (Fast.tw14044960220447912780 fpJ1 (envFP B))) dsN ?_ (by decide) ?_ ?_ ?_ ?_
 · rfl
 · cases a <;> (intro B2; kernel_rfl)
 · cases a <;> (intro B2; kernel_rfl)
 · cases a <;> (intro B2; kernel_rfl)
 · exact fun B2 s' p' hB h1 b1 => K s' p' h1 b1
theorem fpR {X : Str} {tX : Nat} (H : HpW (W3 w a b c) s3.heap []) (hR : ∀ s', Beh [] s3 s' → HpW (W3 w a b c) s'.heap [] → R (.ok (.ret (.str X tX))) s') : Mn (model prg (W3 w a b c)) R ⟨.func fpDef.2.1 (envFP B), none, none, x.l, none⟩ p [] (retT (envFP B) (Sem.pure (.str X tX))) s3 := by
 refine sn_ok H 0 0 [] [] (fun _ => []) (fun _ => .ret (.str X tX)) dsN rfl (by decide) ?_ ?_
 · cases a <;> (intro B2; kernel_rfl)
 · exact fun B2 s' _ h1 b1 => hR s' b1 h1
end
end Mine
end
section
namespace Mine
open PySem PySem.W PySem.Calls
open PySem.Sem (wp finPost)
open Builtin.Str (occurrences glued partsBetween tooLong)
noncomputable def subst (c : Nat) (z : List Nat) (l : List Nat) : List Nat := l.flatMap fun k => if k = c then z else [k]
theorem subst_append (c : Nat) (z a b : List Nat) : subst c z (a ++ b) = subst c z a ++ subst c z b := List.flatMap_append
theorem subst_free (c : Nat) (z : List Nat) : ∀ l : List Nat, c ∉ l → subst c z l = l
 | [], _ => rfl
 | k :: r, h => by
   have h1 : ¬ k = c := fun e => h (e ▸ List.mem_cons_self ..)
   show (if k = c then z else [k]) ++ subst c z r = k :: r
   rw [if_neg h1, subst_free c z r (fun m => h (List.mem_cons_of_mem _ m))]; rfl
theorem subst_join (c : Nat) (z : Str) : ∀ parts : List Str, (∀ p ∈ parts, c ∉ p.cps.toList) → subst c z.cps.toList (Str.join ⟨#[c]⟩ parts).cps.toList = (Str.join z parts).cps.toList
 | [], _ => rfl
 | [p], h => subst_free c _ _ (h p (List.mem_singleton.mpr rfl))
 | p :: q :: r, h => by
   have ih := subst_join c z (q :: r) fun a ha => h a (List.mem_cons_of_mem _ ha)
   show subst c z.cps.toList (p ++ ⟨#[c]⟩ ++ Str.join ⟨#[c]⟩ (q :: r)).cps.toList = (p ++ z ++ Str.join z (q :: r)).cps.toList
   simp only [Str.cps_append, Array.toList_append]
   rw [subst_append, subst_append, ih, subst_free c _ _ (h p (List.mem_cons_self ..))]
   congr 1
   congr 1
   show subst c z.cps.toList [c] = _
   simp [subst]
theorem replace_subst (x z : Str) (c : Nat) : (Txt.replace x ⟨#[c]⟩ z).cps.toList = subst c z.cps.toList x.cps.toList := by
 rw [StrLaws.replace_one, ← subst_join c z _ (StrLaws.split_free x c), StrLaws.join_split]
theorem subst_length (c : Nat) (z : List Nat) (n : Nat) (hz : z.length ≤ n) (hn : 1 ≤ n) : ∀ l : List Nat, (subst c z l).length ≤ n * l.length
 | [] => Nat.zero_le _
 | k :: r => by
   have ih := subst_length c z n hz hn r
   show ((if k = c then z else [k]) ++ subst c z r).length ≤ n * (r.length + 1)
   rw [List.length_append, Nat.mul_add, Nat.mul_one]
   split
   · omega
   · simp; omega
section
variable {w : World} {Γ : Ctx} {p : Pos} {s : Shared} {R : Result → Shared → Prop}
theorem replace_call {x z : Str} {c t u v : Nat} (hΓ : Γ.code = .call (.builtin "str.replace") ⟨[.str x t, .str ⟨#[c]⟩ u, .str z v], []⟩) (hu : u ≠ 0) (hv : v ≠ 0) (huv : u ≠ v) (hne : (⟨#[c]⟩ : Str) ≠ z) (hx : x.length ≤ 1000) (hz : z.length ≤ 10)
   (hR : ∀ s' tk, s'.heap = s.heap → Beh [] s s' → s.toks ≤ s'.toks → R (.ok (.ret (.str ⟨⟨subst c z.cps.toList x.cps.toList⟩⟩ tk))) s') : wpCode (model prg w) Γ R p s := by
 have hocc : (occurrences x ⟨#[c]⟩ 0 x.length (x.length + 1)).length ≤ x.length + 1 := StrLaws.occ_length_le x ⟨#[c]⟩ 0 x.length (x.length + 1)
 have hres : ∀ r : Str, r = Txt.replace x ⟨#[c]⟩ z → r = ⟨⟨subst c z.cps.toList x.cps.toList⟩⟩ := fun r e => by
   rw [e, ← replace_subst]
 have hsz : (Txt.replace x ⟨#[c]⟩ z).length ≤ sizeLine := by
   have e : (Txt.replace x ⟨#[c]⟩ z).length = (Txt.replace x ⟨#[c]⟩ z).cps.toList.length := by simp [Str.length]
   rw [e, replace_subst]
   have h1 := subst_length c z.cps.toList 10 (by simpa [Str.length] using hz) (by decide) x.cps.toList
   have h2 : x.cps.toList.length ≤ 1000 := by simpa [Str.length] using hx
   have h3 : 10 * 1000 ≤ sizeLine := by decide
   omega
 refine gives_at hΓ (c' := .builtin "str.replace" ⟨[.str x t, .str ⟨#[c]⟩ u, .str z v], []⟩) (by kernel_rfl) (by kernel_rfl) (entry_is F.entry_str_replace) (gives_str_replace x ⟨#[c]⟩ z t u v (fun _ => ⟨by simp [hu, hv], by simpa using huv, by simpa using hne, ?_⟩)) ?_
 · have h3 : 1000 + 1001 * 10 ≤ sizeLine := by decide
   have h4 : (occurrences x ⟨#[c]⟩ 0 x.length (x.length + 1)).length * z.length ≤ 1001 * 10 := Nat.mul_le_mul (by omega) hz
   unfold tooLong
   exact decide_eq_false (by omega)
 · have hd : ((⟨#[c]⟩ : Str).length == 0) = false := rfl
   cases he : ((occurrences x ⟨#[c]⟩ 0 x.length (x.length + 1)).isEmpty || ((⟨#[c]⟩ : Str).length == 0 && z.length == 0)) with
   | true =>
     rw [if_pos rfl]
     have e : x = Txt.replace x ⟨#[c]⟩ z := by
       unfold Txt.replace
       rw [he]; rfl
     have := hR s t rfl (Beh.refl _ _) (Nat.le_refl _)
     rw [← hres x e] at this
     exact this
   | false =>
     rw [if_neg Bool.false_ne_true]
     have e : glued z (partsBetween x (occurrences x ⟨#[c]⟩ 0 x.length (x.length + 1)) (⟨#[c]⟩ : Str).length) = Txt.replace x ⟨#[c]⟩ z := by
       unfold Txt.replace
       rw [he]; rfl
     refine ⟨by rw [e]; exact hsz, ?_⟩
     rw [hres _ e]
     exact hR { s with toks := s.toks + 1 } s.toks rfl ⟨fun _ _ h _ => h, rfl, rfl, rfl⟩ (Nat.le_succ _)
end
section
variable {M : Model} {A : Around} {E : Value → Shared → Prop} {s : Shared} {env : Env}
theorem wp_handed {row : String} {x : Str} {t : Nat} {Q : Value → Shared → Prop} (hx : x.length ≤ sizeLine) (h : ∀ tk k, Q (.str x tk) { s with toks := k }) : wpAny M A (habitSame row (.str x t)) Q E s :=
 wpAny_habitSame_str (h t s.toks) (h s.toks (s.toks + 1)) hx
theorem wp_field {n : Str} {q pos : Pos} {m : Str → Option Value} {x : Str} {t : Nat} {Q : Value → Shared → Prop} (hk : env.scope.kind = .function) (hl : env.kindOf n = some .local) (hd : (n == ("__debug__" : Str)) = false) (hn : s.heap.Ns env.locals m) (hv : m n = some (.str x t)) (hx : x.length ≤ sizeLine)
   (h : ∀ tk k, Q (.str x tk) { s with toks := k }) : wpAny M A (eval (.FormattedValue (.Name n q) 115 none pos) env) Q E s := by
 rw [arm_eval_FormattedValue]
 refine wpAny_bind (wpAny_Name (wpAny_loadName_local hk hl hn hv ?_) hd)
 refine wpAny_bind (wpAny_standAt ?_)
 refine wpAny_bind (wpAny_holding ?_)
 show wpAny M A (habitSame "fstring-hands-on-the-str" (.str x t)) _ E s
 refine wp_handed hx fun tk k => ?_
 show wpAny M A (do rule "fstring.same-str"; habitSame "fstring-hands-on-the-str" (.str x tk)) Q E _
 refine wpAny_bind (wpAny_rule ?_)
 exact wp_handed hx fun tk' k' => h tk' k'
end
theorem fp_kind (L : Nat) : (envFP L).scope.kind = .function := by kernel_rfl
theorem fp_loc1 (L : Nat) : (envFP L).kindOf ⟨#[112,97,114,97,109]⟩ = some .local := by kernel_rfl
theorem fp_loc2 (L : Nat) : (envFP L).kindOf ⟨#[118,97,108,117,101]⟩ = some .local := by kernel_rfl
theorem fpJ1_is : fpJ1 = .JoinedStr [.FormattedValue (.Name ⟨#[112,97,114,97,109]⟩ ⟨12,32,12,37⟩) 115 none ⟨12,32,12,37⟩,.Constant (.str ⟨#[61,34]⟩) 0 ⟨12,19,12,28⟩,.FormattedValue (.Name ⟨#[118,97,108,117,101]⟩ ⟨12,39,12,44⟩) 115 none ⟨12,39,12,44⟩,.Constant (.str ⟨#[34]⟩) 0 ⟨12,19,12,28⟩] ⟨12,19,12,45⟩ := by kernel_rfl
theorem fpJ2_is : fpJ2 = .JoinedStr [.FormattedValue (.Name ⟨#[112,97,114,97,109]⟩ ⟨14,30,14,35⟩) 115 none ⟨14,30,14,35⟩,.Constant (.str ⟨#[61]⟩) 0 ⟨14,19,14,26⟩,.FormattedValue (.Name ⟨#[118,97,108,117,101]⟩ ⟨14,37,14,42⟩) 115 none ⟨14,37,14,42⟩] ⟨14,19,14,43⟩ := by kernel_rfl
section
variable {M : Model} {A : Around} {E : Value → Shared → Prop} {w : World} {s : Shared} {B t tP tV tk : Nat} {k : Int} {P V : Str}
theorem fp_ns (H : HpW w s.heap [(B, fpFr w t P tP V tV k tk)]) : ∃ m, s.heap.Ns (envFP B).locals m ∧ m ⟨#[112,97,114,97,109]⟩ = some (.str P tP) ∧ m ⟨#[118,97,108,117,101]⟩ = some (.str V tV) := by
 refine ⟨_, ⟨_, _, _, H.own _ (.head _), rfl, ?_, fun _ => rfl⟩, ?_, ?_⟩
 · intro e he
   simp only [List.mem_toArray, List.mem_cons, List.not_mem_nil, or_false] at he
   rcases he with rfl | rfl | rfl <;> exact ⟨_, _, rfl⟩
 · kernel_rfl
 · kernel_rfl
theorem len_app (x y : Str) : (x ++ y).length = x.length + y.length := by
 show (x.cps ++ y.cps).size = x.cps.size + y.cps.size
 simp
theorem fp_nsT {k' : Nat} {m : Str → Option Value} (h : s.heap.Ns (envFP B).locals m) : ({ s with toks := k' } : Shared).heap.Ns (envFP B).locals m := h
theorem empty_app (x : Str) : Str.empty ++ x = x := by
 show (⟨#[] ++ x.cps⟩ : Str) = x
 simp
theorem eval_J1 {Q : Value → Shared → Prop} (H : HpW w s.heap [(B, fpFr w t P tP V tV k tk)]) (hP : P.length ≤ 1000) (hV : V.length ≤ 1000) (h : ∀ tk' k', Q (.str (P ++ ⟨#[61,34]⟩ ++ V ++ ⟨#[34]⟩) tk') { s with toks := k' }) : wpAny (model prg w) A (eval fpJ1 (envFP B)) Q E s := by
 obtain ⟨m, hn, h1, h2⟩ := fp_ns H
 have sz : 5000 ≤ sizeLine := by decide
 have l1 : (⟨#[61,34]⟩ : Str).length = 2 := rfl
 have l2 : (⟨#[34]⟩ : Str).length = 1 := rfl
 rw [fpJ1_is]
 refine wpAny_JoinedStr ?_
 refine wp_field (fp_kind B) (fp_loc1 B) (by decide) hn h1 (by omega) fun t1 k1 => ⟨P, t1, rfl, by rw [empty_app]; omega, ?_⟩
 refine wpAny_Constant_str ⟨_, _, rfl, by rw [empty_app, len_app]; omega, ?_⟩
 refine wp_field (fp_kind B) (fp_loc2 B) (by decide) hn h2 (by omega) fun t2 k2 => ⟨V, t2, rfl, by rw [empty_app, len_app, len_app]; omega, ?_⟩
 refine wpAny_Constant_str ⟨_, _, rfl, by rw [empty_app, len_app, len_app, len_app]; omega, by rw [empty_app, len_app, len_app, len_app]; omega, ?_⟩
 rw [empty_app]
 exact h _ _
theorem eval_J2 {Q : Value → Shared → Prop} (H : HpW w s.heap [(B, fpFr w t P tP V tV k tk)]) (hP : P.length ≤ 1000) (hV : V.length ≤ 1000) (h : ∀ tk' k', Q (.str (P ++ ⟨#[61]⟩ ++ V) tk') { s with toks := k' }) : wpAny (model prg w) A (eval fpJ2 (envFP B)) Q E s := by
 obtain ⟨m, hn, h1, h2⟩ := fp_ns H
 have sz : 5000 ≤ sizeLine := by decide
 have l1 : (⟨#[61]⟩ : Str).length = 1 := rfl
 rw [fpJ2_is]
 refine wpAny_JoinedStr ?_
 refine wp_field (fp_kind B) (fp_loc1 B) (by decide) hn h1 (by omega) fun t1 k1 => ⟨P, t1, rfl, by rw [empty_app]; omega, ?_⟩
 refine wpAny_Constant_str ⟨_, _, rfl, by rw [empty_app, len_app]; omega, ?_⟩
 refine wp_field (fp_kind B) (fp_loc2 B) (by decide) hn h2 (by omega) fun t2 k2 => ⟨V, t2, rfl, by rw [empty_app, len_app, len_app]; omega, by rw [empty_app, len_app, len_app]; omega, ?_⟩
 rw [empty_app]
 exact h _ _
end
theorem mn_ret {M : Model} {R : Result → Shared → Prop} {Γ : Ctx} {p : Pos} {s : Shared} {e : Expr} {env : Env}
   (h : ∀ A, wpAny M A (eval e env) (fun v s' => ∀ p', Mn M R Γ p' [] (retT env (Sem.pure v)) s') (fun _ _ => False) s) : Mn M R Γ p [] (retT env (Fast.tw14044960220447912780 e env)) s := by
 have e1 : ∀ m, retT env m = Sem.bind (Sem.onRaise (Sem.bind (Sem.bind (Sem.bind (Sem.bind m fun x => Sem.pure (Flow.ret x)) (kNext [] env)) (kNext [] env)) (kNext [] env)) (leaving env)) fR := fun m => by
   unfold retT
   rw [← Fast.te9442747609961115081, ← PySem.W.R.bindR_eq, ← PySem.W.R.onRaiseR_eq]
 rw [e1, ← Fast.te14044960220447912780]
 refine ⟨?_⟩
 show wp M Γ (Sem.bind (Sem.onRaise (Sem.bind (Sem.bind (Sem.bind (Sem.bind (eval e env) _) _) _) _) (leaving env)) fR) _ _ p s
 rw [Sem.wp_bind, Sem.wp_onRaise, Sem.wp_bind, Sem.wp_bind, Sem.wp_bind, Sem.wp_bind]
 refine Sem.wp_mono M Γ _ (fun v p' s' h' => ?_) (fun _ _ _ h' => h'.elim) p s (h (arOf Γ) Γ p (in_arOf Γ))
 have z := (h' p').out
 rw [e1] at z
 have z' : wp M Γ (Sem.bind (Sem.onRaise (Sem.bind (Sem.bind (Sem.bind (Sem.bind (Sem.pure v) _) _) _) _) (leaving env)) fR) (finPost M Γ (RetK M R [])) (fun e _ s' => RetK M R [] (.error e) s') p' s' := z
 rw [Sem.wp_bind, Sem.wp_onRaise, Sem.wp_bind, Sem.wp_bind, Sem.wp_bind, Sem.wp_bind, Sem.wp_pure] at z'
 exact z'
end Mine
end
section
namespace Mine
open PySem PySem.W PySem.Calls
open PySem.Sre
noncomputable def C49 : Array Nat := #[14,14,4,1,1,9,0,4227896069,939524097,0,0,0,0,0,0,13,11,9,0,4227896069,939524097,0,0,0,0,0,0,1]
noncomputable def C62 : Array Nat := #[14,17,4,1,1,21,9,0,604043296,1,0,0,0,0,0,8,4,0,13,14,21,9,0,604043296,1,0,0,0,0,0,8,4,0,1]
noncomputable def S49 (c : Nat) : Bool := decide (c < 256) && (C49.getD (5 + (1 + c / 32)) 0).testBit (c % 32)
noncomputable def S62a (c : Nat) : Bool := decide (c < 256) && (C62.getD (6 + (1 + c / 32)) 0).testBit (c % 32)
noncomputable def S62 (c : Nat) : Bool := !(S62a c || isWord c)
structure SetOf (C : Array Nat) (S : Nat → Bool) (b : Nat) : Prop where
 first : ∀ c seen, ∃ seen', inSet C c C.size 5 true seen = .ok (S c, seen')
 item : ∀ c seen, ∃ seen', accepts C b c seen = .ok (S c, seen')
theorem in49 (c : Nat) (seen : Seen) : ∃ seen', inSet C49 c C49.size 5 true seen = .ok (S49 c, seen') := by
 cases h : S49 c with
 | true =>
   refine ⟨seen.add 9, ?_⟩
   show (if S49 c = true then _ else _) = _
   rw [if_pos h]; rfl
 | false =>
   refine ⟨(seen.add 9).add 0, ?_⟩
   show (if S49 c = true then _ else _) = _
   rw [if_neg (show ¬ S49 c = true by rw [h]; exact Bool.false_ne_true)]
   rfl
theorem same49 : ∀ c, (decide (c < 256) && (C49.getD (17 + (1 + c / 32)) 0).testBit (c % 32)) = S49 c := by
 intro c
 by_cases h : c < 256
 · have : ∀ c < 256, (decide (c < 256) && (C49.getD (17 + (1 + c / 32)) 0).testBit (c % 32)) = S49 c := by decide +kernel
   exact this c h
 · unfold S49
   simp [h]
theorem acc49 (c : Nat) (seen : Seen) : ∃ seen', accepts C49 15 c seen = .ok (S49 c, seen') := by
 cases h : S49 c with
 | true =>
   refine ⟨seen.add 9, ?_⟩
   show (if (decide (c < 256) && (C49.getD (17 + (1 + c / 32)) 0).testBit (c % 32)) = true then _ else _) = _
   rw [same49, if_pos h]; rfl
 | false =>
   refine ⟨(seen.add 9).add 0, ?_⟩
   show (if (decide (c < 256) && (C49.getD (17 + (1 + c / 32)) 0).testBit (c % 32)) = true then _ else _) = _
   rw [same49, if_neg (show ¬ S49 c = true by rw [h]; exact Bool.false_ne_true)]
   rfl
theorem set49 : SetOf C49 S49 15 := ⟨in49, acc49⟩
theorem cat4 (c : Nat) : category 4 c = .ok (isWord c) := by
 show Except.ok (isWord c != false) = _
 simp
theorem in62 (c : Nat) (seen : Seen) : ∃ seen', inSet C62 c C62.size 5 true seen = .ok (S62 c, seen') := by
 unfold S62
 cases h : S62a c with
 | true =>
   refine ⟨(seen.add 21).add 9, ?_⟩
   show (if S62a c = true then _ else _) = _
   rw [if_pos h]; rfl
 | false =>
   cases h2 : isWord c with
   | true =>
     refine ⟨(((seen.add 21).add 9).add 8).add (55 + 4), ?_⟩
     show (if S62a c = true then _ else _) = _
     rw [if_neg (show ¬ S62a c = true by rw [h]; exact Bool.false_ne_true)]
     show (category 4 c >>= fun x => if x = true then _ else _) = _
     rw [cat4, h2]; rfl
   | false =>
     refine ⟨((((seen.add 21).add 9).add 8).add (55 + 4)).add 0, ?_⟩
     show (if S62a c = true then _ else _) = _
     rw [if_neg (show ¬ S62a c = true by rw [h]; exact Bool.false_ne_true)]
     show (category 4 c >>= fun x => if x = true then _ else _) = _
     rw [cat4, h2]; rfl
theorem same62 : ∀ c, (decide (c < 256) && (C62.getD (21 + (1 + c / 32)) 0).testBit (c % 32)) = S62a c := by
 intro c
 by_cases h : c < 256
 · have : ∀ c < 256, (decide (c < 256) && (C62.getD (21 + (1 + c / 32)) 0).testBit (c % 32)) = S62a c := by decide +kernel
   exact this c h
 · unfold S62a
   simp [h]
theorem acc62 (c : Nat) (seen : Seen) : ∃ seen', accepts C62 18 c seen = .ok (S62 c, seen') := by
 unfold S62
 cases h : S62a c with
 | true =>
   refine ⟨(seen.add 21).add 9, ?_⟩
   show (if (decide (c < 256) && (C62.getD (21 + (1 + c / 32)) 0).testBit (c % 32)) = true then _ else _) = _
   rw [same62, if_pos h]; rfl
 | false =>
   cases h2 : isWord c with
   | true =>
     refine ⟨(((seen.add 21).add 9).add 8).add (55 + 4), ?_⟩
     show (if (decide (c < 256) && (C62.getD (21 + (1 + c / 32)) 0).testBit (c % 32)) = true then _ else _) = _
     rw [same62, if_neg (show ¬ S62a c = true by rw [h]; exact Bool.false_ne_true)]
     show (category 4 c >>= fun x => if x = true then _ else _) = _
     rw [cat4, h2]; rfl
   | false =>
     refine ⟨((((seen.add 21).add 9).add 8).add (55 + 4)).add 0, ?_⟩
     show (if (decide (c < 256) && (C62.getD (21 + (1 + c / 32)) 0).testBit (c % 32)) = true then _ else _) = _
     rw [same62, if_neg (show ¬ S62a c = true by rw [h]; exact Bool.false_ne_true)]
     show (category 4 c >>= fun x => if x = true then _ else _) = _
     rw [cat4, h2]; rfl
theorem set62 : SetOf C62 S62 18 := ⟨in62, acc62⟩
theorem adm {C : Array Nat} {S : Nat → Bool} {b : Nat} (h : SetOf C S b) {m : M} (hC : m.code = C) (hl : m.lim = m.text.size) : ∀ (fuel s : Nat) (seen : Seen), m.lim + 1 ≤ fuel + s →
   (∃ seen', m.admitted fuel s seen = .ok (none, seen') ∧ ∀ c ∈ m.text.toList.drop s, S c = false) ∨ (∃ j seen', m.admitted fuel s seen = .ok (some j, seen') ∧ j < m.lim ∧ S (m.text.getD j 0) = true)
 | 0, s, seen, hf => .inl ⟨seen, rfl, by
     rw [List.drop_of_length_le (by simp; omega)]; simp⟩
 | fuel + 1, s, seen, hf => by
   by_cases hs : s ≥ m.lim
   · refine .inl ⟨seen, ?_, by rw [List.drop_of_length_le (by simp; omega)]; simp⟩
     show (if s ≥ m.lim then _ else _) = _
     rw [if_pos hs]
   · obtain ⟨seen1, e⟩ := h.first (m.text.getD s 0) seen
     have e0 : m.admitted (fuel + 1) s seen = match inSet m.code (m.text.getD s 0) m.code.size 5 true seen with
         | .ok (true, seen) => .ok (some s, seen)
         | .ok (false, seen) => m.admitted fuel (s + 1) seen
         | .error why => .error why := by
       show (if s ≥ m.lim then _ else _) = _
       rw [if_neg hs]
       rfl
     rw [hC, e] at e0
     cases hS : S (m.text.getD s 0) with
     | true =>
       rw [hS] at e0
       exact .inr ⟨s, seen1, e0, Nat.lt_of_not_le hs, hS⟩
     | false =>
       rw [hS] at e0
       rcases adm h hC hl fuel (s + 1) seen1 (by omega) with ⟨seen2, e2, h2⟩ | ⟨j, seen2, e2, h2, h3⟩
       · refine .inl ⟨seen2, e0.trans e2, ?_⟩
         have hlt : s < m.text.toList.length := by simp; omega
         rw [List.drop_eq_getElem_cons hlt]
         intro c hc
         rcases List.mem_cons.mp hc with rfl | hc
         · have : m.text.getD s 0 = m.text.toList[s] := by
             rw [Array.getD_eq_getD_getElem?, Array.getElem?_eq_getElem (by simpa using hlt)]; simp
           rw [← this]; exact hS
         · exact h2 c hc
       · exact .inr ⟨j, seen2, e0.trans e2, h2, h3⟩
noncomputable def m0 (C text : Array Nat) (b : Nat) (seen : Seen) : M := { code := C, text, lim := text.size, start := 0, lastStart := text.size, pc := b, pos := 0, handed := 0, marks := #[], mustAdvance := false, seen }
noncomputable def m1 (C text : Array Nat) (b : Nat) (seen : Seen) (j : Nat) : M := { code := C, text, lim := text.size, start := j, lastStart := text.size, pc := b, pos := j, handed := j, outermost := true, marks := #[], mustAdvance := false, frames := [{ wait := .nextStart, pc := b, pos := j, outermost := true }], weight := 1, seen }
theorem search_is (C : Array Nat) (b : Nat) (hC : C = C49 ∧ b = 15 ∨ C = C62 ∧ b = 18) (text : Array Nat) (h0 : 0 < text.size) : forSearch C text 0 0 text.size false = (m0 C text b (({} : Seen).add 14)).attemptFrom 0 true := by
 have hz : ¬ ((decide (0 > text.size) || decide (text.size - 0 < 1)) = true) := by
   simp only [Bool.or_eq_true, decide_eq_true_eq]; omega
 rcases hC with ⟨rfl, rfl⟩ | ⟨rfl, rfl⟩
 · show (if (decide (0 > text.size) || decide (text.size - 0 < 1)) = true then _ else _) = _
   rw [if_neg hz]
   rfl
 · show (if (decide (0 > text.size) || decide (text.size - 0 < 1)) = true then _ else _) = _
   rw [if_neg hz]
   rfl
theorem step_in (C : Array Nat) (b : Nat) (S : Nat → Bool) (hC : C = C49 ∧ b = 15 ∨ C = C62 ∧ b = 18) (hS : SetOf C S b) (text : Array Nat) (seen : Seen) (j : Nat) (hj : j < text.size) (hs : S (text.getD j 0) = true) :
   ((m1 C text b seen j).runFor 4).outcome = some .matched := by
 obtain ⟨seen2, e⟩ := hS.item (text.getD j 0) (seen.add 13)
 rw [hs] at e
 rcases hC with ⟨rfl, rfl⟩ | ⟨rfl, rfl⟩
 · have s1 : (m1 C49 text 15 seen j).step = { m1 C49 text 15 seen j with seen := seen2, pc := 27, pos := j + 1 } := by
     show (if j ≥ text.size then _ else match accepts C49 15 (text.getD j 0) (seen.add 13) with | .error why => _ | .ok (false, seen) => _ | .ok (true, seen) => _ : M) = _
     rw [if_neg (by omega), e]
     rfl
   show (((m1 C49 text 15 seen j).step).runFor 3).outcome = _
   rw [s1]
   rfl
 · have s1 : (m1 C62 text 18 seen j).step = { m1 C62 text 18 seen j with seen := seen2, pc := 33, pos := j + 1 } := by
     show (if j ≥ text.size then _ else match accepts C62 18 (text.getD j 0) (seen.add 13) with | .error why => _ | .ok (false, seen) => _ | .ok (true, seen) => _ : M) = _
     rw [if_neg (by omega), e]
     rfl
   show (((m1 C62 text 18 seen j).step).runFor 3).outcome = _
   rw [s1]
   rfl
theorem search_run (C : Array Nat) (b : Nat) (S : Nat → Bool) (hC : C = C49 ∧ b = 15 ∨ C = C62 ∧ b = 18) (hS : SetOf C S b) (text : Array Nat) (h0 : 0 < text.size) :
   (((forSearch C text 0 0 text.size false).runFor 4).outcome = some .failed ∧ ∀ c ∈ text.toList, S c = false) ∨ (((forSearch C text 0 0 text.size false).runFor 4).outcome = some .matched ∧ ∃ c ∈ text.toList, S c = true) := by
 rw [search_is C b hC text h0]
 have hfs : (m0 C text b (({} : Seen).add 14)).hasFirstSet = true := by rcases hC with ⟨rfl, rfl⟩ | ⟨rfl, rfl⟩ <;> rfl
 have e0 : (m0 C text b (({} : Seen).add 14)).attemptFrom 0 true = match (m0 C text b (({} : Seen).add 14)).admitted (text.size + 1 - 0) 0 (({} : Seen).add 14) with
     | .ok (some s, seen) => ({ m0 C text b (({} : Seen).add 14) with mustAdvance := false, seen } : M).attemptAt s true
     | .ok (none, seen) => ({ m0 C text b (({} : Seen).add 14) with seen } : M).say false
     | .error why => (m0 C text b (({} : Seen).add 14)).stick why := by
   unfold M.attemptFrom
   rw [hfs]
   rfl
 rw [e0]
 rcases adm hS (m := m0 C text b (({} : Seen).add 14)) rfl rfl (text.size + 1 - 0) 0 (({} : Seen).add 14) (by show text.size + 1 ≤ _; omega) with ⟨seen', e, h⟩ | ⟨j, seen', e, hj, h⟩
 · rw [e]
   exact .inl ⟨rfl, h⟩
 · rw [e]
   have hj' : j < text.size := hj
   refine .inr ⟨?_, text.getD j 0, ?_, h⟩
   · have e1 : ({ m0 C text b (({} : Seen).add 14) with mustAdvance := false, seen := seen' } : M).attemptAt j true = m1 C text b seen' j := rfl
     show ((({ m0 C text b (({} : Seen).add 14) with mustAdvance := false, seen := seen' } : M).attemptAt j true).runFor 4).outcome = _
     rw [e1]
     exact step_in C b S hC hS text seen' j hj' h
   · rw [Array.getD_eq_getD_getElem?, Array.getElem?_eq_getElem hj']
     simp
end Mine
end
section
namespace Mine
open PySem PySem.W PySem.Calls
open PySem.Sem (wp finPost)
open Builtin.Re
noncomputable def chkW (js : List Nat) (r : Option Out) : Option (List Nat × List Bool × List String × List Value × List (Option Obj) × Bool) := match r with
 | some o => some (lft o.xs, lft o.bs, lft o.ss, lft o.es, js.map o.T.get, o.κ.isEmpty)
 | none => none
noncomputable def owedW (r : Option Out) (os : List (Option Obj)) (b : Bool) : Option (List Nat × List Bool × List String × List Value × List (Option Obj) × Bool) := match r with
 | some o => some (rgt o.xs, rgt o.bs, rgt o.ss, rgt o.es, os, b)
 | none => some ([], [], [], [], os, b)
noncomputable def vwOf (r : Option Out) : Vw := match r with | some o => o.vw | none => .other
theorem of_chkW {js : List Nat} {r : Option Out} {os : List (Option Obj)} {b : Bool} (e : chkW js r = owedW r os b) : chk js r = owed r os (vwOf r) b := by
 cases r with
 | none => cases e
 | some o =>
   have e' : some (lft o.xs, lft o.bs, lft o.ss, lft o.es, js.map o.T.get, o.κ.isEmpty) = some (rgt o.xs, rgt o.bs, rgt o.ss, rgt o.es, os, b) := e
   simp only [Option.some.injEq, Prod.mk.injEq] at e'
   obtain ⟨e1, e2, e3, e4, e5, e6⟩ := e'
   show some (lft o.xs, lft o.bs, lft o.ss, lft o.es, js.map o.T.get, o.vw, o.κ.isEmpty) = some (rgt o.xs, rgt o.bs, rgt o.ss, rgt o.es, os, o.vw, b)
   rw [e1, e2, e3, e4, e5, e6]
section
variable {w : World} {R : Result → Shared → Prop} {Γ : Ctx} {p : Pos} {κ : List Kf} {t : Sem Fin} {s : Shared} {L : List (Nat × Obj)}
theorem sn_stuck (H : HpW w s.heap L) (n tr : Nat) (ds : List (Bool × Bool)) (js : List Nat) (os : Nat → List Obj) (Γ' : Nat → Ctx) (t' : Nat → Sem Fin) (hds : ∀ d ∈ ds, d.1 = d.2) (hw : wholeT L 0 .nil = true) (hjs : js.Nodup)
   (e : ∀ B, chkW js (rn w s B L n Γ p κ t tr ds) = owedW (rn w s B L n Γ p κ t tr ds) ((os B).map some) true)
   (eΓ : ∀ B, cfΓ (rn w s B L n Γ p κ t tr ds) = Γ' B) (et : ∀ B, cft (rn w s B L n Γ p κ t tr ds) = t' B)
   (fin : ∀ B s' p', s.heap.objs.size = B + L.length → HpW w s'.heap (zipA (vW w s B L) js (os B)) → Beh (L.map (·.1)) s s' → s.toks ≤ s'.toks → Mn (model prg w) R (Γ' B) p' [] (t' B) s') :
   Mn (model prg w) R Γ p κ t s :=
 ⟨sgt (hvs := fun _ h => nomatch h) H n tr ds js os (fun B => vwOf (rn w s B L n Γ p κ t tr ds)) true hds hw hjs (fun B => of_chkW (e B)) fun B s' hB h1 h2 h3 => by
   have z := fin B s' (cfp (rn w s B L n Γ p κ t tr ds)) hB h1 h2 (by rw [h3]; exact Nat.le_add_right _ _)
   rw [← eΓ B, ← et B] at z
   have hk' : cfκ (rn w s B L n Γ p κ t tr ds) = [] := List.isEmpty_iff.mp (chk_κ (of_chkW (e B)))
   rw [hk']
   exact z.out⟩
end
theorem wpAny_rules {M : Model} {A : Around} {E : Value → Shared → Prop} {s : Shared} {c : Nat → Bool} {f : Nat → String} {Q : PUnit → Shared → Prop} (h : Q ⟨⟩ s) : ∀ l : List Nat,
   wpAny M A (forIn l PUnit.unit fun i r => do
     if c i = true then do rule (f i); pure (ForInStep.yield PUnit.unit) else pure (ForInStep.yield PUnit.unit)) Q E s
 | [] => wpAny_pure h
 | i :: l => by
   rw [List.forIn_cons]
   refine wpAny_bind ?_
   cases c i with
   | true => exact wpAny_bind (wpAny_rule (wpAny_pure (wpAny_rules h l)))
   | false => exact wpAny_pure (wpAny_rules h l)
theorem drive {m : Sre.M} (h : (m.runFor 4).outcome.isSome = true) : reDrive (2 ^ 64) m = pure (m.runFor 4) := by
 show reDrive (18446744073709551615 + 1) m = _
 show (if (m.runFor 4).outcome.isSome = true then _ else _) = _
 rw [if_pos h]
 rfl
theorem wp_toEnd {M : Model} {A : Around} {E : Value → Shared → Prop} {s : Shared} {m : Sre.M} {Q : Option Sre.M → Shared → Prop} (h : ((m.runFor 4).outcome = some .failed ∧ Q none s) ∨ ((m.runFor 4).outcome = some .matched ∧ Q (some (m.runFor 4)) s)) : wpAny M A (reRunToEnd m) Q E s := by
 unfold reRunToEnd
 rw [drive (by rcases h with ⟨h, _⟩ | ⟨h, _⟩ <;> rw [h] <;> rfl)]
 refine wpAny_bind (wpAny_pure ?_)
 refine wpAny_bind (wpAny_rules ?_ _)
 rcases h with ⟨h, hq⟩ | ⟨h, hq⟩
 · rw [h]; exact wpAny_pure hq
 · rw [h]; exact wpAny_pure hq
noncomputable abbrev tgt (pat : Nat) (C : Array Nat) (x : Str) (t : Nat) : ReTarget := { pattern := .ref pat, string := .str x t, code := C, text := x.cps, kind := 0, groups := 0, pos := min (0 : Int).toNat x.cps.size, lim := min ((2 ^ 63 - 1 : Int)).toNat x.cps.size }
noncomputable abbrev gSE (pat : Nat) (x : Str) (t : Nat) (bl : List (Code × Pos)) : Ctx := ⟨.builtin "re.Pattern.search" ⟨[.ref pat, .str x t], []⟩, none, none, bl, none⟩
section
variable {w : World} {a b c : Bool} {s : Shared} {x : Str} {t pat : Nat} {bl : List (Code × Pos)} {p : Pos} {R : Result → Shared → Prop}
theorem wp_answer {A : Around} {E : Value → Shared → Prop} {C : Array Nat} {m : Sre.M} {Q : PySem.Fin → Shared → Prop} (H : HpW w s.heap [])
   (h : ((m.runFor 4).outcome = some .failed ∧ Q (.done (.ret .none)) s) ∨ ((m.runFor 4).outcome = some .matched ∧ ∀ s' u i j k, HpW w s'.heap [(u, mtO x t pat i j k)] → Beh [] s s' → s.heap.get? u = none → s.toks ≤ s'.toks → Q (.done (.ret (.ref u))) s')) :
   wpAny (model prg w) A (reAnswer (tgt pat C x t) m) Q E s := by
 unfold reAnswer
 refine wpAny_bind (wp_toEnd ?_)
 rcases h with ⟨h, hq⟩ | ⟨h, hq⟩
 · exact .inl ⟨h, wpAny_pure hq⟩
 · refine .inr ⟨h, ?_⟩
   show wpAny _ _ (reNewMatch (.ref pat) (.str x t) 0 _ _ (m.runFor 4) >>= _) _ _ s
   refine wpAny_bind ?_
   show wpAny _ _ (newTuple [rawInt ((m.runFor 4).start : Int), rawInt ((m.runFor 4).handed : Int)] >>= _) _ _ s
   refine wpAny_bind (wpAny_newTuple ?_ (by show 2 ≤ sizeLine; decide))
   refine wpAny_newObj_type ?_ (by size_fits)
   refine wpAny_pure (hq _ _ (rawInt (min ((2 ^ 63 - 1 : Int)).toNat x.cps.size : Nat)) (rawInt (m.runFor 4).lastindex) (.ref s.heap.objs.size) ?_ (Beh.trans (beh_push s _) (beh_push _ _) (by simp)) ?_ ?_)
   · have H1 := H.push (o := { cls := .type "tuple", data := .seq [rawInt ((m.runFor 4).start : Int), rawInt ((m.runFor 4).handed : Int)].toArray }) rfl
     exact Hp.back (H1.push (o := mtO x t pat (rawInt (min ((2 ^ 63 - 1 : Int)).toNat x.cps.size : Nat)) (rawInt (m.runFor 4).lastindex) (.ref s.heap.objs.size)) rfl)
   · exact Heap.get?_none_of_le (by rw [Heap.size_push]; omega)
   · exact Nat.le_refl _
theorem lim_is (h : x.length ≤ 1000) : min ((2 ^ 63 - 1 : Int)).toNat x.cps.size = x.cps.size := by
 have h1 : x.cps.size ≤ 1000 := h
 have h2 : ((2 ^ 63 - 1 : Int)).toNat = 9223372036854775807 := by decide
 omega
theorem mn_answer {Γ : Ctx} {C : Array Nat} {bb : Nat} {S : Nat → Bool} (hC : C = C49 ∧ bb = 15 ∨ C = C62 ∧ bb = 18) (hS : SetOf C S bb) (H : HpW w s.heap []) (h0 : 0 < x.length) (hx : x.length ≤ 1000)
   (hn : (∀ k ∈ x.cps.toList, S k = false) → R (.ok (.ret .none)) s) (hy : (∃ k ∈ x.cps.toList, S k = true) → ∀ s' u i j k, HpW w s'.heap [(u, mtO x t pat i j k)] → Beh [] s s' → s.heap.get? u = none → s.toks ≤ s'.toks → R (.ok (.ret (.ref u))) s') :
   Mn (model prg w) R Γ p [] (Fast.tw9785098376550351509 (tgt pat C x t) (Sre.forSearch C x.cps 0 (min (0 : Int).toNat x.cps.size) (min ((2 ^ 63 - 1 : Int)).toNat x.cps.size) false)) s := by
 rw [← Fast.te9785098376550351509, lim_is hx]
 refine ⟨?_⟩
 show wp (model prg w) Γ (reAnswer (tgt pat C x t) (Sre.forSearch C x.cps 0 0 x.cps.size false)) (finPost _ Γ (RetK _ R [])) (fun e _ s' => RetK _ R [] (.error e) s') p s
 have z := wp_answer (A := arOf Γ) (E := fun _ _ => False) (Q := fun fin s' => match fin with | .done f => R (.ok f) s' | .again _ => False) (m := Sre.forSearch C x.cps 0 0 x.cps.size false) (C := C) (x := x) (t := t) (pat := pat) H ?_
 · refine Sem.wp_mono _ Γ _ (fun fin p' s' h' => ?_) (fun _ _ _ h' => h'.elim) p s (z Γ p (in_arOf Γ))
   cases fin with
   | done f => exact h'
   | again _ => exact h'.elim
 · rcases search_run C bb S hC hS x.cps h0 with ⟨h1, h2⟩ | ⟨h1, h2⟩
   · exact .inl ⟨h1, hn h2⟩
   · exact .inr ⟨h1, hy h2⟩
theorem search49 (H : HpW (W3 w a b c) s.heap []) (h0 : 0 < x.length) (hx : x.length ≤ 1000)
   (hn : ∀ s', HpW (W3 w a b c) s'.heap [] → Beh [] s s' → s.toks ≤ s'.toks → (∀ k ∈ x.cps.toList, S49 k = false) → R (.ok (.ret .none)) s') (hy : ∀ s' u i j k, (∃ k ∈ x.cps.toList, S49 k = true) → HpW (W3 w a b c) s'.heap [(u, mtO x t 49 i j k)] → Beh [] s s' → s.heap.get? u = none → s.toks ≤ s'.toks → R (.ok (.ret (.ref u))) s') :
   wpCode (model prg (W3 w a b c)) (gSE 49 x t bl) R p s := by
 refine code_mn (c := .builtin "re.Pattern.search" ⟨[.ref 49,.str x t], []⟩) rfl (sn_stuck H 2 0 [] [] (fun _ => []) (fun _ => gSE 49 x t bl) (fun _ => Fast.tw9785098376550351509 (tgt 49 C49 x t) (Sre.forSearch C49 x.cps 0 (min (0 : Int).toNat x.cps.size) (min ((2 ^ 63 - 1 : Int)).toNat x.cps.size) false)) dsN rfl (by decide) ?_ ?_ ?_ ?_)
 · cases a <;> (intro B; kernel_rfl)
 · cases a <;> (intro B; kernel_rfl)
 · cases a <;> (intro B; kernel_rfl)
 · intro B s' p' hB h1 b1 ht
   exact mn_answer (.inl ⟨rfl, rfl⟩) set49 h1 h0 hx (fun h => hn s' h1 b1 ht h) fun h s2 u i j k h2 b2 hu ht2 => hy s2 u i j k h h2 (Beh.trans b1 b2 (by simp)) (dead_nil b1 _ hu) (Nat.le_trans ht ht2)
theorem search62 (H : HpW (W3 w a b c) s.heap []) (h0 : 0 < x.length) (hx : x.length ≤ 1000)
   (hn : ∀ s', HpW (W3 w a b c) s'.heap [] → Beh [] s s' → s.toks ≤ s'.toks → (∀ k ∈ x.cps.toList, S62 k = false) → R (.ok (.ret .none)) s') (hy : ∀ s' u i j k, (∃ k ∈ x.cps.toList, S62 k = true) → HpW (W3 w a b c) s'.heap [(u, mtO x t 62 i j k)] → Beh [] s s' → s.heap.get? u = none → s.toks ≤ s'.toks → R (.ok (.ret (.ref u))) s') :
   wpCode (model prg (W3 w a b c)) (gSE 62 x t bl) R p s := by
 refine code_mn (c := .builtin "re.Pattern.search" ⟨[.ref 62,.str x t], []⟩) rfl (sn_stuck H 2 0 [] [] (fun _ => []) (fun _ => gSE 62 x t bl) (fun _ => Fast.tw9785098376550351509 (tgt 62 C62 x t) (Sre.forSearch C62 x.cps 0 (min (0 : Int).toNat x.cps.size) (min ((2 ^ 63 - 1 : Int)).toNat x.cps.size) false)) dsN rfl (by decide) ?_ ?_ ?_ ?_)
 · cases a <;> (intro B; kernel_rfl)
 · cases a <;> (intro B; kernel_rfl)
 · cases a <;> (intro B; kernel_rfl)
 · intro B s' p' hB h1 b1 ht
   exact mn_answer (.inr ⟨rfl, rfl⟩) set62 h1 h0 hx (fun h => hn s' h1 b1 ht h) fun h s2 u i j k h2 b2 hu ht2 => hy s2 u i j k h h2 (Beh.trans b1 b2 (by simp)) (dead_nil b1 _ hu) (Nat.le_trans ht ht2)
end
end Mine
end
section
namespace Mine
open PySem PySem.W PySem.Calls
noncomputable def escF (v : List Nat) : List Nat := subst 34 [92,34] (subst 92 [92,92] v)
noncomputable def fmtF (P v : List Nat) (mk : Bool) : List Nat := if v = [] then P else if mk || v.any S49 then P ++ [61,34] ++ escF v ++ [34] else P ++ [61] ++ v
noncomputable def mkI : Bool → Int
 | true => 1
 | false => 0
noncomputable def StrK (w : World) (R : Result → Shared → Prop) (s : Shared) (x : List Nat) : Prop := ∀ s' tk, HpW w s'.heap [] → Beh [] s s' → R (.ok (.ret (.str ⟨⟨x⟩⟩ tk))) s'
section
variable {w : World} {a b c : Bool} {s : Shared} {P v : List Nat} {tP tV tk : Nat} {mk : Bool} {x : SM} {p : Pos} {R : Result → Shared → Prop}
theorem toks_beh {s s' : Shared} (e : s'.heap = s.heap) (B : Beh [] s s') {w : World} {L : List (Nat × Obj)} (H : HpW w s.heap L) : HpW w s'.heap L := e ▸ H
theorem str4 (P v : List Nat) : (⟨⟨P⟩⟩ : Str) ++ (⟨#[61,34]⟩ : Str) ++ (⟨⟨v⟩⟩ : Str) ++ (⟨#[34]⟩ : Str) = ⟨⟨P ++ [61,34] ++ v ++ [34]⟩⟩ := by
 show (⟨(⟨P⟩ : Array Nat) ++ #[61,34] ++ (⟨v⟩ : Array Nat) ++ #[34]⟩ : Str) = _
 congr 1
 exact Array.ext' (by simp)
theorem str3 (P v : List Nat) : (⟨⟨P⟩⟩ : Str) ++ (⟨#[61]⟩ : Str) ++ (⟨⟨v⟩⟩ : Str) = ⟨⟨P ++ [61] ++ v⟩⟩ := by
 show (⟨(⟨P⟩ : Array Nat) ++ #[61] ++ (⟨v⟩ : Array Nat)⟩ : Str) = _
 congr 1
 exact Array.ext' (by simp)
theorem esc_len {v : List Nat} (h : v.length ≤ 12) : (subst 92 [92,92] v).length ≤ 100 ∧ (escF v).length ≤ 100 := by
 have h1 := subst_length 92 [92,92] 2 (by decide) (by decide) v
 have h2 := subst_length 34 [92,34] 2 (by decide) (by decide) (subst 92 [92,92] v)
 unfold escF
 omega
theorem beh_frame {s s1 s2 : Shared} {B : Nat} (hB : s.heap.objs.size = B) (b1 : Beh [] s s1) (b2 : Beh [B] s1 s2) : Beh [] s s2 :=
 beh_new hB b1 b2 fun z hz => .inr (Nat.le_of_eq (List.mem_singleton.mp hz).symm)
theorem fp_tail1 {B : Nat} {t k : Nat} {kk : Int} {V : List Nat} {t2 : Nat} (H : HpW (W3 w a b c) s.heap [(B, fpFr (W3 w a b c) t ⟨⟨P⟩⟩ tP ⟨⟨V⟩⟩ t2 kk tk)]) (hP : P.length ≤ 100) (hV : V.length ≤ 100) (hR : StrK (W3 w a b c) R s (P ++ [61,34] ++ V ++ [34])) :
   Mn (model prg (W3 w a b c)) R ⟨.func fpDef.2.1 (envFP B), none, none, x.l, none⟩ p [] (retT (envFP B) (Fast.tw14044960220447912780 fpJ1 (envFP B))) s := by
 refine mn_ret fun A => eval_J1 H (show P.length ≤ 1000 by omega) (show V.length ≤ 1000 by omega) fun tk' k' p' => ?_
 rw [str4]
 have b0 : Beh [] s { s with toks := k' } := ⟨fun _ _ h _ => h, rfl, rfl, rfl⟩
 exact fpR H.nil fun s' b1 h1 => hR s' tk' h1 (Beh.trans b0 b1 (by simp))
theorem fp_tail2 {B : Nat} {t : Nat} {kk : Int} {V : List Nat} {t2 : Nat} (H : HpW (W3 w a b c) s.heap [(B, fpFr (W3 w a b c) t ⟨⟨P⟩⟩ tP ⟨⟨V⟩⟩ t2 kk tk)]) (hP : P.length ≤ 100) (hV : V.length ≤ 100) (hR : StrK (W3 w a b c) R s (P ++ [61] ++ V)) :
   Mn (model prg (W3 w a b c)) R ⟨.func fpDef.2.1 (envFP B), none, none, x.l, none⟩ p [] (retT (envFP B) (Fast.tw14044960220447912780 fpJ2 (envFP B))) s := by
 refine mn_ret fun A => eval_J2 H (show P.length ≤ 1000 by omega) (show V.length ≤ 1000 by omega) fun tk' k' p' => ?_
 rw [str3]
 have b0 : Beh [] s { s with toks := k' } := ⟨fun _ _ h _ => h, rfl, rfl, rfl⟩
 exact fpR H.nil fun s' b1 h1 => hR s' tk' h1 (Beh.trans b0 b1 (by simp))
theorem fp_spec (H : HpW (W3 w a b c) s.heap []) (hP : P.length ≤ 100) (hv : v.length ≤ 12) (hR : StrK (W3 w a b c) R s (fmtF P v mk)) :
   wpCode (model prg (W3 w a b c)) (gFP ⟨⟨P⟩⟩ tP ⟨⟨v⟩⟩ tV (mkI mk) tk x) R p s := by
 obtain ⟨le1, le2⟩ := esc_len hv
 by_cases h0 : v = []
 · subst h0
   have hR' : StrK (W3 w a b c) R s P := hR
   refine fpE ?_ H fun s' b1 h1 => hR' s' tP h1 b1
   cases mk
   · exact .inl rfl
   · exact .inr rfl
 · have hpos : 0 < v.length := List.length_pos_iff.mpr h0
   have hf : fits (⟨⟨v⟩⟩ : Str).length = true := fits_of (show v.length ≤ 1000 by omega)
   have hg : decide ((((⟨⟨v⟩⟩ : Str).length : Nat) : Int) > 0) = true := by
     have e : (⟨⟨v⟩⟩ : Str).length = v.length := rfl
     rw [e]
     simp; omega
   have esc : (mk || v.any S49) = true → StrK (W3 w a b c) R s (P ++ [61,34] ++ escF v ++ [34]) := fun h => by
     unfold fmtF at hR
     rw [if_neg h0, if_pos h] at hR
     exact hR
   cases mk with
   | true =>
     refine fpA1 hf hg H fun B s1 p1 hB h1 b1 ht1 => ?_
     refine replace_call (c := 92) (z := ⟨#[92,92]⟩) rfl (by omega) (by omega) (by omega) (by decide) (show v.length ≤ 1000 by omega) (by decide) fun s2 t2 e2 b2 ht2 => ?_
     refine fpA2 (toks_beh e2 b2 h1) fun B1 s3 p3 h3 b3 => ?_
     have hz : s2.toks ≠ 0 := by omega
     refine replace_call (c := 34) (z := ⟨#[92,34]⟩) rfl hz (by omega) (by omega) (by decide) (show (subst 92 [92,92] v).length ≤ 1000 by omega) (by decide) fun s4 t4 e4 b4 ht4 => ?_
     refine fpA3 (toks_beh e4 b4 h3) fun s5 p5 h5 b5 => ?_
     refine fp_tail1 (k := 0) h5 hP le2 fun s6 t6 h6 b6 => esc rfl s6 t6 h6 ?_
     exact Beh.trans (beh_frame hB (Beh.trans (beh_frame hB (Beh.trans b1 b2 (by simp)) b3) b4 (by simp)) b5) b6 (by simp)
   | false =>
     refine fpC1 hf hg H fun B s1 p1 hB h1 b1 ht1 => ?_
     refine search49 h1.nil hpos (show v.length ≤ 1000 by omega) (fun s2 h2 b2 ht2 hS => ?_) (fun s2 u i j k hS h2 b2 du ht2 => ?_)
     · refine fpCn (Hp.keep h1 h2 b2) fun s3 p3 h3 b3 => ?_
       refine fp_tail2 h3 hP (by omega) fun s4 t4 h4 b4 => ?_
       have hno : ¬ (false || v.any S49) = true := by
         simp only [Bool.false_or, List.any_eq_true, not_exists, not_and]
         intro k hk q
         rw [hS k hk] at q; cases q
       unfold fmtF at hR
       rw [if_neg h0, if_neg hno] at hR
       exact hR s4 t4 h4 (Beh.trans (beh_frame hB (Beh.trans b1 b2 (by simp)) b3) b4 (by simp))
     · have hyes : (false || v.any S49) = true := by
         obtain ⟨k, hk, q⟩ := hS
         simp only [Bool.false_or, List.any_eq_true]
         exact ⟨k, hk, q⟩
       have dm : s.heap.get? u = none := dead_nil b1 _ du
       have h2' := (Hp.new (N := [(u, mtO ⟨⟨v⟩⟩ tV 49 i j k)]) h1 h2 b2 (fun y hy => by rw [List.mem_singleton.mp hy]; exact du)).swap (A := [(u, mtO ⟨⟨v⟩⟩ tV 49 i j k)])
       refine fpC2 h2' fun B1 s3 p3 h3 b3 ht3 => ?_
       have b3' : Beh [] s s3 := Beh.drop (bs := []) (Beh.trans (Beh.widen (Beh.trans b1 b2 (by simp)) (bs := [B, u]) (by simp)) b3 (by simp)) fun z hz => .inr (by
         simp only [List.mem_cons, List.not_mem_nil, or_false] at hz
         rcases hz with h | h
         · rw [h]; exact Heap.get?_none_of_le (Nat.le_of_eq hB)
         · rw [h]; exact dm)
       have hz : s2.toks ≠ 0 := by omega
       refine replace_call (c := 92) (z := ⟨#[92,92]⟩) rfl hz (by omega) (by omega) (by decide) (show v.length ≤ 1000 by omega) (by decide) fun s4 t4 e4 b4 ht4 => ?_
       refine fpC3 (toks_beh e4 b4 h3) fun B2 s5 p5 h5 b5 => ?_
       have hz : s4.toks ≠ 0 := by omega
       refine replace_call (c := 34) (z := ⟨#[92,34]⟩) rfl hz (by omega) (by omega) (by decide) (show (subst 92 [92,92] v).length ≤ 1000 by omega) (by decide) fun s6 t6 e6 b6 ht6 => ?_
       refine fpC4 (toks_beh e6 b6 h5) fun s7 p7 h7 b7 => ?_
       refine fp_tail1 (k := 0) h7 hP le2 fun s8 t8 h8 b8 => esc hyes s8 t8 h8 ?_
       exact Beh.trans (beh_frame hB (Beh.trans (beh_frame hB (Beh.trans b3' b4 (by simp)) b5) b6 (by simp)) b7) b8 (by simp)
end
end Mine
end
section
namespace Mine
open PySem PySem.W PySem.Calls
open PySem.Sem (wp finPost)
section
variable {w : World} {Γ : Ctx} {p : Pos} {s : Shared} {R : Result → Shared → Prop}
theorem cps_app (x y : Str) : x ++ y = ⟨⟨x.cps.toList ++ y.cps.toList⟩⟩ := by
 show (⟨x.cps ++ y.cps⟩ : Str) = _
 congr 1
 exact Array.ext' (by simp)
theorem str_eta (x : Str) : x = ⟨⟨x.cps.toList⟩⟩ := by cases x with | mk a => cases a; rfl
theorem add_call {x y : Str} {t u : Nat} (hΓ : Γ.code = .call (.builtin "str.__add__") ⟨[.str x t, .str y u], []⟩) (hl : x.length + y.length ≤ 1000)
   (hR : ∀ s' tk, s'.heap = s.heap → Beh [] s s' → R (.ok (.ret (.str ⟨⟨x.cps.toList ++ y.cps.toList⟩⟩ tk))) s') : wpCode (model prg w) Γ R p s := by
 refine gives_at hΓ (c' := .builtin "str.__add__" ⟨[.str x t, .str y u], []⟩) (by kernel_rfl) (by kernel_rfl) (entry_is F.entry_str_add) (gives_str_add x y t u) ?_
 have lx : x.length = x.cps.toList.length := by simp [Str.length]
 have ly : y.length = y.cps.toList.length := by simp [Str.length]
 by_cases h1 : x.length = 0
 · rw [if_pos (by simpa using h1)]
   have hx : x.cps.toList = [] := List.length_eq_zero_iff.mp (by omega)
   have := hR s u rfl (Beh.refl _ _)
   rw [hx, List.nil_append, ← str_eta] at this
   exact this
 · rw [if_neg (by simpa using h1)]
   by_cases h2 : y.length = 0
   · rw [if_pos (by simpa using h2)]
     have hy : y.cps.toList = [] := List.length_eq_zero_iff.mp (by omega)
     have := hR s t rfl (Beh.refl _ _)
     rw [hy, List.append_nil, ← str_eta] at this
     exact this
   · rw [if_neg (by simpa using h2)]
     have sz : 1000 ≤ sizeLine := by decide
     refine ⟨?_, ?_⟩
     · rw [cps_app]
       show (x.cps.toList ++ y.cps.toList).length ≤ sizeLine
       rw [List.length_append]; omega
     · rw [cps_app]
       exact hR { s with toks := s.toks + 1 } s.toks rfl ⟨fun _ _ h _ => h, rfl, rfl, rfl⟩
noncomputable def lsO (vs : List Value) (c : Nat) (sl : Array (Option Value)) : Obj := ⟨.type "list", none, .seq ⟨vs⟩ c, sl⟩
theorem ne_len {l b n n2 : Nat} {vs us : List Value} (hΓ : Γ.code = .call (.builtin "list.__ne__") ⟨[.ref l, .ref b], []⟩) (hl : s.heap.get? l = some (listO vs n)) (hb : s.heap.get? b = some (listO us n2)) (hne : vs.length ≠ us.length)
   (hR : R (.ok (.ret (.bool true))) s) : wpCode (model prg w) Γ R p s := by
 refine slot_code hΓ F.slot_list_ne ⟨_, hl, rfl⟩ F.entry_list_ne (F.args_list_ne_2 _ _) fun A => ?_
 exact SeqAt.list_ne_lengthsAt l b ⟨vs⟩ ⟨us⟩ n n2 none none #[] #[] (by simpa using hne) prg w A R s ⟨hl, hb, hR⟩
theorem ne_same {l b n n2 : Nat} {vs us : List Value} {ts : List (List Nat)} (hΓ : Γ.code = .call (.builtin "list.__ne__") ⟨[.ref l, .ref b], []⟩) (hl : s.heap.get? l = some (listO vs n)) (hb : s.heap.get? b = some (listO us n2)) (hv : IsStrs vs ts) (hu : IsStrs us ts)
   (hR : R (.ok (.ret (.bool false))) s) : wpCode (model prg w) Γ R p s := by
 have at' : ∀ {vs : List Value} {ts : List (List Nat)}, IsStrs vs ts → ∀ j (h1 : j < vs.length) (h2 : j < ts.length), ∃ k, vs[j] = .str ⟨⟨ts[j]⟩⟩ k := by
   intro vs
   induction vs with
   | nil => intro ts h j h1; exact absurd h1 (Nat.not_lt_zero _)
   | cons v vs ih =>
     intro ts h j h1 h2
     cases ts with
     | nil => exact absurd h2 (Nat.not_lt_zero _)
     | cons t ts =>
       cases j with
       | zero => exact h.1
       | succ j => exact ih h.2 j (by simpa using h1) (by simpa using h2)
 have len : ∀ {vs : List Value} {ts : List (List Nat)}, IsStrs vs ts → vs.length = ts.length := by
   intro vs
   induction vs with
   | nil => intro ts h; cases ts with
     | nil => rfl
     | cons => exact h.elim
   | cons v vs ih => intro ts h; cases ts with
     | nil => exact h.elim
     | cons t ts => exact congrArg (· + 1) (ih h.2)
 refine slot_code hΓ F.slot_list_ne ⟨_, hl, rfl⟩ F.entry_list_ne (F.args_list_ne_2 _ _) fun A => ?_
 refine SeqAt.list_neAt l b ⟨vs⟩ ⟨us⟩ n n2 none none #[] #[] (by simp [len hv, len hu]) (fun _ => true) prg w A R s ⟨hl, hb, fun j h1 h2 => ?_, ?_⟩
 · have h1' : j < vs.length := by simpa using h1
   have h2' : j < us.length := by simpa using h2
   obtain ⟨k, e1⟩ := at' hv j h1' (len hv ▸ h1')
   obtain ⟨k2, e2⟩ := at' hu j h2' (len hu ▸ h2')
   show SeqAt.EqAt A.in1 s vs[j] us[j] true
   rw [e1, e2]
   have := SeqAt.EqAt.str_str (A := A.in1) (s := s) (⟨⟨ts[j]'(len hv ▸ h1')⟩⟩ : Str) k ⟨⟨ts[j]'(len hv ▸ h1')⟩⟩ k2
   rw [show ((⟨⟨ts[j]'(len hv ▸ h1')⟩⟩ : Str) == ⟨⟨ts[j]'(len hv ▸ h1')⟩⟩) = true from by simp] at this
   exact this
 · have : (!(List.range (⟨vs⟩ : Array Value).size).all fun _ => true) = false := by simp
   rw [this]; exact hR
end
end Mine
end
section
namespace Mine
open PySem PySem.W
noncomputable def quDef : Dft := topDef 27
noncomputable def envQU (L : Nat) : Env := { scope := quDef.2.2, locals := L, globals := 3, cells := [], qual := ⟨#[113,117,111,116,101,46,60,108,111,99,97,108,115,62,46]⟩, func := some 765, code := .ref 764, frame := some L, builtins := 0 }
noncomputable abbrev cQU (n : Str) (tn : Nat) : Code := .call (.ref 765) ⟨[.str n tn], []⟩
noncomputable abbrev gQU (n : Str) (tn : Nat) (x : SM) : Ctx := ⟨cQU n tn, none, none, x.l, none⟩
noncomputable def quFr (w : World) (t : Nat) (n : Str) (tn : Nat) : Obj := ⟨.type "frame", none, .dict #[⟨hs w #[115], .str ⟨#[115]⟩ t, .str n tn⟩] 1, #[]⟩
noncomputable def rQ1 (w : World) (s : Shared) (B : Nat) (n : Str) (tn : Nat) (x : SM) (p : Pos) : Option Out := rn w s B [] 28 (gQU n tn x) p [] (den (cQU n tn)) 282300684439552 [(fits n.length, true)]
noncomputable def rQ2 (w : World) (s : Shared) (B : Nat) (n : Str) (tn : Nat) (x : SM) (p : Pos) (s1 : Shared) (B1 m : Nat) (mo : Obj) : Option Out := rn w s1 B1 [(B, quFr w s.toks n tn), (m, mo)] 11 (pΓ (cfκ (rQ1 w s B n tn x p))) (pp (cfκ (rQ1 w s B n tn x p))) (pκ (cfκ (rQ1 w s B n tn x p))) (pT (cfκ (rQ1 w s B n tn x p)) (.ok (.ret (.ref m)))) 1 []
noncomputable def rQ3 (w : World) (s : Shared) (B : Nat) (n : Str) (tn : Nat) (x : SM) (p : Pos) (s1 : Shared) (B1 m : Nat) (mo : Obj) (s2 : Shared) (B2 : Nat) (v : Str) (tv : Nat) : Option Out := rn w s2 B2 [] 3 (cfΓ (rQ2 w s B n tn x p s1 B1 m mo)) (cfp (rQ2 w s B n tn x p s1 B1 m mo)) (cfκ (rQ2 w s B n tn x p s1 B1 m mo)) (ansT (rQ2 w s B n tn x p s1 B1 m mo) (.ok (.ret (.str v tv)))) 0 []
noncomputable def rQ4 (w : World) (s : Shared) (B : Nat) (n : Str) (tn : Nat) (x : SM) (p : Pos) (s1 : Shared) (B1 m : Nat) (mo : Obj) (s2 : Shared) (B2 : Nat) (v : Str) (tv : Nat) (s3 : Shared) (B3 : Nat) (v3 : Str) (t3 : Nat) : Option Out := rn w s3 B3 [] 3 (cfΓ (rQ3 w s B n tn x p s1 B1 m mo s2 B2 v tv)) (cfp (rQ3 w s B n tn x p s1 B1 m mo s2 B2 v tv)) (cfκ (rQ3 w s B n tn x p s1 B1 m mo s2 B2 v tv)) (ansT (rQ3 w s B n tn x p s1 B1 m mo s2 B2 v tv) (.ok (.ret (.str v3 t3)))) 0 []
section
variable {w : World} {a b c : Bool} {s s1 s2 s3 s4 : Shared} {B B1 B2 B3 : Nat} {n v v3 v4 : Str} {tn tv t3 t4 m : Nat} {i j k : Value} {x : SM} {p : Pos} {R : Result → Shared → Prop}
theorem qE (H : HpW (W3 w a b c) s.heap []) (hR : ∀ s' t, Beh [] s s' → HpW (W3 w a b c) s'.heap [] → R (.ok (.ret (.str ⟨⟨[39,39]⟩⟩ t))) s') : wpCode (model prg (W3 w a b c)) (gQU ⟨#[]⟩ tn x) R p s := by
 refine code_mn (c := cQU ⟨#[]⟩ tn) rfl (sn_ok H 18 825707728896 [(true, true)] [] (fun _ => []) (fun _ => .ret (.str ⟨⟨[39,39]⟩⟩ (s.toks + 3))) ?_ rfl (by decide) ?_ ?_)
 · exact dsC rfl dsN
 · cases a <;> (intro B; kernel_rfl)
 · exact fun B s' _ h1 b1 => hR s' _ b1 h1
theorem qS (hl : fits n.length = true) (h0 : 0 < n.length) (H : HpW (W3 w a b c) s.heap []) (hc : ∃ y l, n = ⟨⟨y :: l⟩⟩)
   (K : ∀ B s' p', s.heap.objs.size = B → HpW (W3 w a b c) s'.heap [(B, quFr (W3 w a b c) s.toks n tn)] → Beh [] s s' → s'.toks = s.toks + 3 → wpCode (model prg (W3 w a b c)) (gSE 62 n tn ((.func quDef.2.1 (envQU B), ⟨747,7,747,22⟩) :: x.l)) (fun r s'' => Mn (model prg (W3 w a b c)) R (pΓ (cfκ (rQ1 (W3 w a b c) s B n tn x p))) (pp (cfκ (rQ1 (W3 w a b c) s B n tn x p))) (pκ (cfκ (rQ1 (W3 w a b c) s B n tn x p))) (pT (cfκ (rQ1 (W3 w a b c) s B n tn x p)) r) s'') p' s') :
   wpCode (model prg (W3 w a b c)) (gQU n tn x) R p s := by
 obtain ⟨y, l, rfl⟩ := hc
 refine code_mn (c := cQU ⟨⟨y :: l⟩⟩ tn) rfl (sn_gotoT H 28 282300684439552 [(fits (⟨⟨y :: l⟩⟩ : Str).length, true)] [0] (fun B => [quFr (W3 w a b c) s.toks ⟨⟨y :: l⟩⟩ tn]) (fun B => (gSE 62 ⟨⟨y :: l⟩⟩ tn ((.func quDef.2.1 (envQU B), ⟨747,7,747,22⟩) :: x.l))) 3 ?_ ?_ (by decide) ?_ ?_ ?_)
 · exact dsC hl dsN
 · rfl
 · cases a <;> (intro B; kernel_rfl)
 · cases a <;> (intro B; kernel_rfl)
 · exact fun B s' p' hB h1 b1 ht => K B s' p' hB h1 b1 ht
theorem qN (hc : ∃ y l, n = ⟨⟨y :: l⟩⟩) (H : HpW (W3 w a b c) s1.heap [(B, quFr (W3 w a b c) s.toks n tn)]) (hR : ∀ s', Beh [B] s1 s' → HpW (W3 w a b c) s'.heap [(B, quFr (W3 w a b c) s.toks n tn)] → R (.ok (.ret (.str n tn))) s') : Mn (model prg (W3 w a b c)) R (pΓ (cfκ (rQ1 (W3 w a b c) s B n tn x p))) (pp (cfκ (rQ1 (W3 w a b c) s B n tn x p))) (pκ (cfκ (rQ1 (W3 w a b c) s B n tn x p))) (pT (cfκ (rQ1 (W3 w a b c) s B n tn x p)) (.ok (.ret .none))) s1 := by
 obtain ⟨y, l, rfl⟩ := hc
 refine sn_ok H 5 1 [] [0] (fun _ => [quFr (W3 w a b c) s.toks ⟨⟨y :: l⟩⟩ tn]) (fun _ => .ret (.str ⟨⟨y :: l⟩⟩ tn)) dsN ?_ (by decide) ?_ ?_
 · rfl
 · cases a <;> (intro B2; kernel_rfl)
 · exact fun B2 s' _ h1 b1 => hR s' b1 h1
theorem qY (hc : ∃ y l, n = ⟨⟨y :: l⟩⟩) (H : HpW (W3 w a b c) s1.heap [(B, quFr (W3 w a b c) s.toks n tn), (m, (mtO n tn 62 i j k))])
   (K : ∀ B1 s' p', HpW (W3 w a b c) s'.heap [(B, quFr (W3 w a b c) s.toks n tn)] → Beh [B, m] s1 s' → wpCode (model prg (W3 w a b c)) ⟨.call (.builtin "str.replace") ⟨[.str n tn, .str ⟨#[39]⟩ (s1.toks + 1), .str ⟨#[39,34,39,34,39]⟩ (s1.toks + 2)], []⟩, none, none, (.func quDef.2.1 (envQU B), ⟨749,17,749,43⟩) :: x.l, none⟩ (fun r s'' => Mn (model prg (W3 w a b c)) R (cfΓ (rQ2 (W3 w a b c) s B n tn x p s1 B1 m (mtO n tn 62 i j k))) (cfp (rQ2 (W3 w a b c) s B n tn x p s1 B1 m (mtO n tn 62 i j k))) (cfκ (rQ2 (W3 w a b c) s B n tn x p s1 B1 m (mtO n tn 62 i j k))) (ansT (rQ2 (W3 w a b c) s B n tn x p s1 B1 m (mtO n tn 62 i j k)) r) s'') p' s') :
   Mn (model prg (W3 w a b c)) R (pΓ (cfκ (rQ1 (W3 w a b c) s B n tn x p))) (pp (cfκ (rQ1 (W3 w a b c) s B n tn x p))) (pκ (cfκ (rQ1 (W3 w a b c) s B n tn x p))) (pT (cfκ (rQ1 (W3 w a b c) s B n tn x p)) (.ok (.ret (.ref m)))) s1 := by
 obtain ⟨y, l, rfl⟩ := hc
 refine sn_call H 11 1 [] [0] (fun _ => [quFr (W3 w a b c) s.toks ⟨⟨y :: l⟩⟩ tn]) (fun _ => ⟨.call (.builtin "str.replace") ⟨[.str ⟨⟨y :: l⟩⟩ tn, .str ⟨#[39]⟩ (s1.toks + 1), .str ⟨#[39,34,39,34,39]⟩ (s1.toks + 2)], []⟩, none, none, (.func quDef.2.1 (envQU B), ⟨749,17,749,43⟩) :: x.l, none⟩) true dsN ?_ (by decide) ?_ ?_
 · rfl
 · cases a <;> (intro B1; kernel_rfl)
 · exact fun B1 s' p' hB h1 b1 => K B1 s' p' h1 b1
theorem qA1 (hc : ∃ y l, n = ⟨⟨y :: l⟩⟩) (H : HpW (W3 w a b c) s2.heap [])
   (K : ∀ B2 s' p', HpW (W3 w a b c) s'.heap [] → Beh [] s2 s' → wpCode (model prg (W3 w a b c)) ⟨.call (.builtin "str.__add__") ⟨[.str ⟨#[39]⟩ s1.toks, .str v tv], []⟩, none, none, (.func quDef.2.1 (envQU B), ⟨749,11,749,43⟩) :: x.l, none⟩ (fun r s'' => Mn (model prg (W3 w a b c)) R (cfΓ (rQ3 (W3 w a b c) s B n tn x p s1 B1 m (mtO n tn 62 i j k) s2 B2 v tv)) (cfp (rQ3 (W3 w a b c) s B n tn x p s1 B1 m (mtO n tn 62 i j k) s2 B2 v tv)) (cfκ (rQ3 (W3 w a b c) s B n tn x p s1 B1 m (mtO n tn 62 i j k) s2 B2 v tv)) (ansT (rQ3 (W3 w a b c) s B n tn x p s1 B1 m (mtO n tn 62 i j k) s2 B2 v tv) r) s'') p' s') :
   Mn (model prg (W3 w a b c)) R (cfΓ (rQ2 (W3 w a b c) s B n tn x p s1 B1 m (mtO n tn 62 i j k))) (cfp (rQ2 (W3 w a b c) s B n tn x p s1 B1 m (mtO n tn 62 i j k))) (cfκ (rQ2 (W3 w a b c) s B n tn x p s1 B1 m (mtO n tn 62 i j k))) (ansT (rQ2 (W3 w a b c) s B n tn x p s1 B1 m (mtO n tn 62 i j k)) (.ok (.ret (.str v tv)))) s2 := by
 obtain ⟨y, l, rfl⟩ := hc
 refine sn_call H 3 0 [] [] (fun _ => []) (fun _ => ⟨.call (.builtin "str.__add__") ⟨[.str ⟨#[39]⟩ s1.toks, .str v tv], []⟩, none, none, (.func quDef.2.1 (envQU B), ⟨749,11,749,43⟩) :: x.l, none⟩) true dsN rfl (by decide) ?_ ?_
 · cases a <;> (intro B2; kernel_rfl)
 · exact fun B2 s' p' hB h1 b1 => K B2 s' p' h1 b1
theorem qA2 (hc : ∃ y l, n = ⟨⟨y :: l⟩⟩) (H : HpW (W3 w a b c) s3.heap [])
   (K : ∀ B3 s' p', HpW (W3 w a b c) s'.heap [] → Beh [] s3 s' → wpCode (model prg (W3 w a b c)) ⟨.call (.builtin "str.__add__") ⟨[.str v3 t3,.str ⟨#[39]⟩ s3.toks], []⟩, none, none, (.func quDef.2.1 (envQU B), ⟨749,11,749,49⟩) :: x.l, none⟩ (fun r s'' => Mn (model prg (W3 w a b c)) R (cfΓ (rQ4 (W3 w a b c) s B n tn x p s1 B1 m (mtO n tn 62 i j k) s2 B2 v tv s3 B3 v3 t3)) (cfp (rQ4 (W3 w a b c) s B n tn x p s1 B1 m (mtO n tn 62 i j k) s2 B2 v tv s3 B3 v3 t3)) (cfκ (rQ4 (W3 w a b c) s B n tn x p s1 B1 m (mtO n tn 62 i j k) s2 B2 v tv s3 B3 v3 t3)) (ansT (rQ4 (W3 w a b c) s B n tn x p s1 B1 m (mtO n tn 62 i j k) s2 B2 v tv s3 B3 v3 t3) r) s'') p' s') :
   Mn (model prg (W3 w a b c)) R (cfΓ (rQ3 (W3 w a b c) s B n tn x p s1 B1 m (mtO n tn 62 i j k) s2 B2 v tv)) (cfp (rQ3 (W3 w a b c) s B n tn x p s1 B1 m (mtO n tn 62 i j k) s2 B2 v tv)) (cfκ (rQ3 (W3 w a b c) s B n tn x p s1 B1 m (mtO n tn 62 i j k) s2 B2 v tv)) (ansT (rQ3 (W3 w a b c) s B n tn x p s1 B1 m (mtO n tn 62 i j k) s2 B2 v tv) (.ok (.ret (.str v3 t3)))) s3 := by
 obtain ⟨y, l, rfl⟩ := hc
 refine sn_call H 3 0 [] [] (fun _ => []) (fun _ => ⟨.call (.builtin "str.__add__") ⟨[.str v3 t3,.str ⟨#[39]⟩ s3.toks], []⟩, none, none, (.func quDef.2.1 (envQU B), ⟨749,11,749,49⟩) :: x.l, none⟩) true dsN rfl (by decide) ?_ ?_
 · cases a <;> (intro B3; kernel_rfl)
 · exact fun B3 s' p' hB h1 b1 => K B3 s' p' h1 b1
theorem qA3 (hc : ∃ y l, n = ⟨⟨y :: l⟩⟩) (H : HpW (W3 w a b c) s4.heap []) (hR : ∀ s', Beh [] s4 s' → HpW (W3 w a b c) s'.heap [] → R (.ok (.ret (.str v4 t4))) s') : Mn (model prg (W3 w a b c)) R (cfΓ (rQ4 (W3 w a b c) s B n tn x p s1 B1 m (mtO n tn 62 i j k) s2 B2 v tv s3 B3 v3 t3)) (cfp (rQ4 (W3 w a b c) s B n tn x p s1 B1 m (mtO n tn 62 i j k) s2 B2 v tv s3 B3 v3 t3)) (cfκ (rQ4 (W3 w a b c) s B n tn x p s1 B1 m (mtO n tn 62 i j k) s2 B2 v tv s3 B3 v3 t3)) (ansT (rQ4 (W3 w a b c) s B n tn x p s1 B1 m (mtO n tn 62 i j k) s2 B2 v tv s3 B3 v3 t3) (.ok (.ret (.str v4 t4)))) s4 := by
 obtain ⟨y, l, rfl⟩ := hc
 refine sn_ok H 0 0 [] [] (fun _ => []) (fun _ => .ret (.str v4 t4)) dsN rfl (by decide) ?_ ?_
 · cases a <;> (intro B4; kernel_rfl)
 · exact fun B4 s' _ h1 b1 => hR s' b1 h1
end
end Mine
end
section
namespace Mine
open PySem PySem.W
noncomputable def quoteF (n : List Nat) : List Nat := if n = [] then [39,39] else if n.any S62 then [39] ++ subst 39 [39,34,39,34,39] n ++ [39] else n
theorem qu_spec {w : World} {a b c : Bool} {s : Shared} {n : List Nat} {tn : Nat} {x : SM} {p : Pos} {R : Result → Shared → Prop} (H : HpW (W3 w a b c) s.heap []) (hn : n.length ≤ 12) (hR : StrK (W3 w a b c) R s (quoteF n)) :
   wpCode (model prg (W3 w a b c)) (gQU ⟨⟨n⟩⟩ tn x) R p s := by
 cases n with
 | nil => exact qE H fun s' t b1 h1 => hR s' t h1 b1
 | cons y l =>
   have hc : ∃ y' l', (⟨⟨y :: l⟩⟩ : Str) = ⟨⟨y' :: l'⟩⟩ := ⟨y, l, rfl⟩
   have hl : (⟨⟨y :: l⟩⟩ : Str).length ≤ 1000 := by
     show (y :: l).length ≤ 1000
     omega
   have hsub : (subst 39 [39,34,39,34,39] (y :: l)).length ≤ 100 := by
     have := subst_length 39 [39,34,39,34,39] 5 (by decide) (by decide) (y :: l)
     omega
   refine qS (fits_of hl) (Nat.succ_pos _) H hc fun B s1 p1 hB h1 b1 ht1 => ?_
   have dB : s.heap.get? B = none := Heap.get?_none_of_le (Nat.le_of_eq hB)
   refine search62 h1.nil (Nat.succ_pos _) hl (fun s2 h2 b2 ht2 hS => ?_) (fun s2 u i j k hS h2 b2 du ht2 => ?_)
   · refine qN hc (Hp.keep h1 h2 b2) fun s3 b3 h3 => ?_
     have hno : ¬ (y :: l).any S62 = true := by
       simp only [List.any_eq_true, not_exists, not_and]
       intro k hk q
       rw [hS k hk] at q; cases q
     unfold quoteF at hR
     rw [if_neg (by simp), if_neg hno] at hR
     exact hR s3 tn h3.nil (beh_frame hB (Beh.trans b1 b2 (by simp)) b3)
   · have hyes : (y :: l).any S62 = true := by
       obtain ⟨k, hk, q⟩ := hS
       simp only [List.any_eq_true]
       exact ⟨k, hk, q⟩
     unfold quoteF at hR
     rw [if_neg (by simp), if_pos hyes] at hR
     have dm : s.heap.get? u = none := dead_nil b1 _ du
     have h2' := (Hp.new (N := [(u, mtO ⟨⟨y :: l⟩⟩ tn 62 i j k)]) h1 h2 b2 (fun z hz => by rw [List.mem_singleton.mp hz]; exact du)).swap (A := [(u, mtO ⟨⟨y :: l⟩⟩ tn 62 i j k)])
     refine qY hc h2' fun B1 s3 p3 h3 b3 => ?_
     have b3' : Beh [] s s3 := Beh.drop (bs := []) (Beh.trans (Beh.widen (Beh.trans b1 b2 (by simp)) (bs := [B, u]) (by simp)) b3 (by simp)) fun z hz => .inr (by
       simp only [List.mem_cons, List.not_mem_nil, or_false] at hz
       rcases hz with h | h
       · rw [h]; exact dB
       · rw [h]; exact dm)
     refine replace_call (c := 39) (z := ⟨#[39,34,39,34,39]⟩) rfl (by omega) (by omega) (by omega) (by decide) hl (by decide) fun s4 t4 e4 b4 ht4 => ?_
     refine qA1 hc (toks_beh e4 b4 h3.nil) fun B2 s5 p5 h5 b5 => ?_
     refine add_call rfl (show 1 + (subst 39 [39,34,39,34,39] (y :: l)).length ≤ 1000 by omega) fun s6 t6 e6 b6 => ?_
     refine qA2 hc (toks_beh e6 b6 h5) fun B3 s7 p7 h7 b7 => ?_
     refine add_call rfl (show ([39] ++ subst 39 [39,34,39,34,39] (y :: l)).length + 1 ≤ 1000 by rw [List.length_append]; simp only [List.length_cons, List.length_nil]; omega) fun s8 t8 e8 b8 => ?_
     refine qA3 hc (toks_beh e8 b8 h7) fun s9 b9 h9 => ?_
     refine hR s9 t8 h9 ?_
     exact Beh.trans (Beh.trans (Beh.trans (Beh.trans (Beh.trans (Beh.trans b3' b4 (by simp)) b5 (by simp)) b6 (by simp)) b7 (by simp)) b8 (by simp)) b9 (by simp)
end Mine
end
section
namespace Mine
open PySem PySem.W
noncomputable def duDef : Dft := topDef 31
noncomputable def envDU (L : Nat) : Env := { scope := duDef.2.2, locals := L, globals := 3, cells := [], qual := ⟨#[95,108,97,119,95,100,117,101,46,60,108,111,99,97,108,115,62,46]⟩, func := some 782, code := .ref 781, frame := some L, builtins := 0 }
noncomputable abbrev cDU (N : Str) (tN : Nat) (V : Str) (tV : Nat) (k : Int) (tm : Nat) (rm : Bool) : Code := .call (.ref 782) ⟨[.str N tN, .str V tV, .int k tm, .bool rm], []⟩
noncomputable abbrev gDU (N : Str) (tN : Nat) (V : Str) (tV : Nat) (k : Int) (tm : Nat) (rm : Bool) (x : S0) : Ctx := ⟨cDU N tN V tV k tm rm, none, none, x.l, none⟩
noncomputable def duFr (w : World) (t : Nat) (N : Str) (tN : Nat) (V : Str) (tV : Nat) (k : Int) (tm : Nat) (rm : Bool) : Obj := ⟨.type "frame", none, .dict #[⟨hs w #[110,97,109,101], .str ⟨#[110,97,109,101]⟩ t, .str N tN⟩,⟨hs w #[118,97,108,117,101], .str ⟨#[118,97,108,117,101]⟩ (t + 1), .str V tV⟩,⟨hs w #[109,97,114,107,115], .str ⟨#[109,97,114,107,115]⟩ (t + 2), .int k tm⟩,⟨hs w #[114,101,109,97,114,107], .str ⟨#[114,101,109,97,114,107]⟩ (t + 3), .bool rm⟩] 4, #[]⟩
noncomputable def compIn : Option Stmt → Expr
 | some (.If (.BoolOp _ (_ :: .Compare l _ _ _ :: _) _) _ _ _) => l
 | some (.Return (some e) _) => e
 | _ => .Constant .none 0 ⟨0,0,0,0⟩
noncomputable def compSc : Expr → Scope
 | .ListComp _ _ s _ => s
 | _ => { kind := .function, names := [], isGenerator := false, isCoroutine := false, more := [] }
noncomputable def duComp : Expr := compIn (nth duDef.2.1 1)
noncomputable def envDC (D B : Nat) : Env := { scope := compSc duComp, locals := D, globals := 3, cells := [], qual := ⟨#[95,108,97,119,95,100,117,101,46,60,108,111,99,97,108,115,62,46]⟩, func := none, code := .ref 781, frame := some B, builtins := 0 }
noncomputable def tyB : Bool → String
 | true => "str_ascii_iterator"
 | false => "str_iterator"
noncomputable def siO (ba : Bool) (x : Str) (t i : Nat) : Obj := ⟨.type (tyB ba), none, .fields #[.str x t, .int (i : Nat) 0], #[]⟩
noncomputable def siE (ba : Bool) (i : Nat) : Obj := ⟨.type (tyB ba), none, .fields #[.none, .int (i : Nat) 0], #[]⟩
noncomputable def dcO (w : World) : Option (Nat × Value) → Obj
 | none => ⟨.type "dict", none, .dict #[] 0, #[]⟩
 | some (k, v) => ⟨.type "dict", none, .dict #[⟨hs w #[115,105,103,110], .str ⟨#[115,105,103,110]⟩ k, v⟩] 1, #[]⟩
noncomputable def duPos : Pos := ⟨785,39,785,44⟩
noncomputable def cDS (it acc D B : Nat) : Code := .compStart duComp 0 (.ref it) (.ref acc) (envDC D B)
noncomputable def cDL (it acc D B : Nat) : Code := .compLoop duComp 0 (.ref it) (.ref acc) (envDC D B)
noncomputable def gDS (it acc D B : Nat) (x : S0) : Ctx := ⟨cDS it acc D B, none, none, (.func duDef.2.1 (envDU B), duPos) :: x.l, none⟩
noncomputable def gDL (it acc D B : Nat) (x : S0) : Ctx := ⟨cDL it acc D B, none, none, (.func duDef.2.1 (envDU B), duPos) :: x.l, none⟩
noncomputable abbrev DS1 (V : Str) (k : Int) (r : Bool) : List (Bool × Bool) := [(V.cps.toList == [], false), (true, true)]
noncomputable def rD1 (w : World) (s : Shared) (B : Nat) (N : Str) (tN : Nat) (V : Str) (tV : Nat) (tm : Nat) (rm : Bool) (x : S0) (p : Pos) : Option Out := rn w s B [] 41 (gDU N tN V tV 0 tm rm x) p [] (den (cDU N tN V tV 0 tm rm)) 1315618319367379705200381952 [(V.cps.toList == [], false), (false, false)]
noncomputable def rD2 (w : World) (s : Shared) (B : Nat) (N : Str) (tN : Nat) (V : Str) (tV : Nat) (tm : Nat) (rm : Bool) (x : S0) (p : Pos) (s1 : Shared) (B1 it : Nat) (ba : Bool) : Option Out := rn w s1 B1 [(B, duFr w s.toks N tN V tV 0 tm rm), (it, siO ba V tV 0)] 3 (cfΓ (rD1 w s B N tN V tV tm rm x p)) (cfp (rD1 w s B N tN V tV tm rm x p)) (cfκ (rD1 w s B N tN V tV tm rm x p)) (ansT (rD1 w s B N tN V tV tm rm x p) (.ok (.ret (.ref it)))) 2 []
noncomputable def rD3 (w : World) (s : Shared) (B : Nat) (N : Str) (tN : Nat) (V : Str) (tV : Nat) (tm : Nat) (rm : Bool) (x : S0) (p : Pos) (s1 : Shared) (B1 it : Nat) (ba : Bool) (s2 : Shared) (B2 : Nat) (vs : List Value) (ca k : Nat) (v : Value) : Option Out := rn w s2 B2 [(B, duFr w s.toks N tN V tV 0 tm rm), (B1 + 2, listO vs ca), (B1 + 3, dcO w (some (k, v)))] 13 (cfΓ (rD2 w s B N tN V tV tm rm x p s1 B1 it ba)) (cfp (rD2 w s B N tN V tV tm rm x p s1 B1 it ba)) (cfκ (rD2 w s B N tN V tV tm rm x p s1 B1 it ba)) (ansT (rD2 w s B N tN V tV tm rm x p s1 B1 it ba) (.ok .next)) 2215129283 []
noncomputable def rD4 (w : World) (s : Shared) (B : Nat) (N : Str) (tN : Nat) (V : Str) (tV : Nat) (tm : Nat) (rm : Bool) (x : S0) (p : Pos) (s1 : Shared) (B1 it : Nat) (ba : Bool) (s2 : Shared) (B2 : Nat) (vs : List Value) (ca k : Nat) (v : Value) (s3 : Shared) (B3 : Nat) : Option Out := rn w s3 B3 [(B, duFr w s.toks N tN V tV 0 tm rm)] 12 (cfΓ (rD3 w s B N tN V tV tm rm x p s1 B1 it ba s2 B2 vs ca k v)) (cfp (rD3 w s B N tN V tV tm rm x p s1 B1 it ba s2 B2 vs ca k v)) (cfκ (rD3 w s B N tN V tV tm rm x p s1 B1 it ba s2 B2 vs ca k v)) (ansT (rD3 w s B N tN V tV tm rm x p s1 B1 it ba s2 B2 vs ca k v) (.ok (.ret (.bool false)))) 266304 []
noncomputable def rD5 (w : World) (s : Shared) (B : Nat) (N : Str) (tN : Nat) (V : Str) (tV : Nat) (tm : Nat) (rm : Bool) (x : S0) (p : Pos) (s1 : Shared) (B1 it : Nat) (ba : Bool) (s2 : Shared) (B2 : Nat) (vs : List Value) (ca k : Nat) (v : Value) (s3 : Shared) (B3 : Nat) : Option Out := rn w s3 B3 [(B, duFr w s.toks N tN V tV 0 tm rm)] 8 (cfΓ (rD3 w s B N tN V tV tm rm x p s1 B1 it ba s2 B2 vs ca k v)) (cfp (rD3 w s B N tN V tV tm rm x p s1 B1 it ba s2 B2 vs ca k v)) (cfκ (rD3 w s B N tN V tV tm rm x p s1 B1 it ba s2 B2 vs ca k v)) (ansT (rD3 w s B N tN V tV tm rm x p s1 B1 it ba s2 B2 vs ca k v) (.ok (.ret (.bool true)))) 1 []
noncomputable def rD6 (w : World) (s : Shared) (B : Nat) (N : Str) (tN : Nat) (V : Str) (tV : Nat) (tm : Nat) (rm : Bool) (x : S0) (p : Pos) (s1 : Shared) (B1 it : Nat) (ba : Bool) (s2 : Shared) (B2 : Nat) (vs : List Value) (ca k : Nat) (v : Value) (s3 : Shared) (B3 : Nat) (s4 : Shared) (B4 : Nat) (v4 : Str) (t4 : Nat) : Option Out := rn w s4 B4 [(B, duFr w s.toks N tN V tV 0 tm rm)] 4 (cfΓ (rD5 w s B N tN V tV tm rm x p s1 B1 it ba s2 B2 vs ca k v s3 B3)) (cfp (rD5 w s B N tN V tV tm rm x p s1 B1 it ba s2 B2 vs ca k v s3 B3)) (cfκ (rD5 w s B N tN V tV tm rm x p s1 B1 it ba s2 B2 vs ca k v s3 B3)) (ansT (rD5 w s B N tN V tV tm rm x p s1 B1 it ba s2 B2 vs ca k v s3 B3) (.ok (.ret (.str v4 t4)))) 1 []
noncomputable def rM1 (w : World) (s : Shared) (B : Nat) (N : Str) (tN : Nat) (V : Str) (tV : Nat) (tm : Nat) (rm : Bool) (x : S0) (p : Pos) : Option Out := rn w s B [] 44 (gDU N tN V tV 1 tm rm x) p [] (den (cDU N tN V tV 1 tm rm)) 1315618319367379705200381952 [(V.cps.toList == [], false), (true, true)]
noncomputable def rM2 (w : World) (s : Shared) (B : Nat) (N : Str) (tN : Nat) (V : Str) (tV : Nat) (tm : Nat) (rm : Bool) (x : S0) (p : Pos) (s1 : Shared) (B1 : Nat) (v4 : Str) (t4 : Nat) : Option Out := rn w s1 B1 [(B, duFr w s.toks N tN V tV 1 tm rm)] 4 (cfΓ (rM1 w s B N tN V tV tm rm x p)) (cfp (rM1 w s B N tN V tV tm rm x p)) (cfκ (rM1 w s B N tN V tV tm rm x p)) (ansT (rM1 w s B N tN V tV tm rm x p) (.ok (.ret (.str v4 t4)))) 1 []
noncomputable def rT (w : World) (s : Shared) (B : Nat) (V : Str) (tV : Nat) (ba : Bool) (i : Nat) (vs : List Value) (ca : Nat) (dc : Option (Nat × Value)) (it acc D F : Nat) (x : S0) (p : Pos) : Option Out :=
 rn w s B [(it, siO ba V tV i), (acc, listO vs ca), (D, dcO w dc)] 2 (gDL it acc D F x) p [] (den (cDL it acc D F)) 1 []
section
variable {w : World} {a b c : Bool} {s s1 s2 s3 s4 s5 : Shared} {B B1 B2 B3 B4 F it acc D i ca k e t : Nat} {N V v4 v5 : Str} {tN tV tm t4 t5 : Nat} {rm ba : Bool} {vs : List Value} {v : Value} {x : S0} {p : Pos} {R : Result → Shared → Prop} {dc : Option (Nat × Value)}
noncomputable def nxB : Bool → String
 | true => "str_ascii_iterator.__next__"
 | false => "str_iterator.__next__"
theorem duE {kk : Int} (H : HpW (W3 w a b c) s.heap []) (hR : ∀ s' u, HpW (W3 w a b c) s'.heap [(u, listO [.str N tN] 0)] → Beh [] s s' → s.heap.get? u = none → R (.ok (.ret (.ref u))) s') : wpCode (model prg (W3 w a b c)) (gDU N tN ⟨#[]⟩ tV kk tm rm x) R p s := by
 refine code_mn (c := cDU N tN ⟨#[]⟩ tV kk tm rm) rfl (sn_ok H 35 307027626663163120062464 [(true, true)] [1] (fun _ => [listO [.str N tN] 0]) (fun B => .ret (.ref (B + 1))) ?_ rfl (by decide) ?_ ?_)
 · exact dsC rfl dsN
 · cases a <;> (intro B; kernel_rfl)
 · exact fun B s' hB h1 b1 => hR s' _ h1 b1 (Heap.get?_none_of_le (by have := hB; simp at this; omega))
theorem duD1 (h0 : (V.cps.toList == []) = false) (H : HpW (W3 w a b c) s.heap [])
   (K : ∀ B s' p', s.heap.objs.size = B → HpW (W3 w a b c) s'.heap [(B, duFr (W3 w a b c) s.toks N tN V tV 0 tm rm)] → Beh [] s s' → wpCode (model prg (W3 w a b c)) ⟨.call (.builtin "str.__iter__") ⟨[.str V tV], []⟩, none, none, (.func duDef.2.1 (envDU B), duPos) :: x.l, none⟩ (fun r s'' => Mn (model prg (W3 w a b c)) R (cfΓ (rD1 (W3 w a b c) s B N tN V tV tm rm x p)) (cfp (rD1 (W3 w a b c) s B N tN V tV tm rm x p)) (cfκ (rD1 (W3 w a b c) s B N tN V tV tm rm x p)) (ansT (rD1 (W3 w a b c) s B N tN V tV tm rm x p) r) s'') p' s') :
   wpCode (model prg (W3 w a b c)) (gDU N tN V tV 0 tm rm x) R p s := by
 refine code_mn (c := cDU N tN V tV 0 tm rm) rfl (sn_call H 41 1315618319367379705200381952 [(V.cps.toList == [], false), (false, false)] [0] (fun B => [duFr (W3 w a b c) s.toks N tN V tV 0 tm rm]) (fun B => ⟨.call (.builtin "str.__iter__") ⟨[.str V tV], []⟩, none, none, (.func duDef.2.1 (envDU B), duPos) :: x.l, none⟩) true ?_ rfl (by decide) ?_ ?_)
 · exact dsC h0 (dsC rfl dsN)
 · cases a <;> (intro B; kernel_rfl)
 · exact fun B s' p' hB h1 b1 => K B s' p' hB h1 b1
theorem duD2 (H : HpW (W3 w a b c) s1.heap [(B, duFr (W3 w a b c) s.toks N tN V tV 0 tm rm), (it, siO ba V tV 0)])
   (K : ∀ B1 s' p', s1.heap.objs.size = B1 + 2 → HpW (W3 w a b c) s'.heap [(B, duFr (W3 w a b c) s.toks N tN V tV 0 tm rm), (it, siO ba V tV 0), (B1 + 2, listO [] 0), (B1 + 3, dcO (W3 w a b c) none)] → Beh [B, it] s1 s' → wpCode (model prg (W3 w a b c)) (gDS it (B1 + 2) (B1 + 3) B x) (fun r s'' => Mn (model prg (W3 w a b c)) R (cfΓ (rD2 (W3 w a b c) s B N tN V tV tm rm x p s1 B1 it ba)) (cfp (rD2 (W3 w a b c) s B N tN V tV tm rm x p s1 B1 it ba)) (cfκ (rD2 (W3 w a b c) s B N tN V tV tm rm x p s1 B1 it ba)) (ansT (rD2 (W3 w a b c) s B N tN V tV tm rm x p s1 B1 it ba) r) s'') p' s') :
   Mn (model prg (W3 w a b c)) R (cfΓ (rD1 (W3 w a b c) s B N tN V tV tm rm x p)) (cfp (rD1 (W3 w a b c) s B N tN V tV tm rm x p)) (cfκ (rD1 (W3 w a b c) s B N tN V tV tm rm x p)) (ansT (rD1 (W3 w a b c) s B N tN V tV tm rm x p) (.ok (.ret (.ref it)))) s1 := by
 refine sn_call H 3 2 [] [0,1,2,3] (fun B1 => [duFr (W3 w a b c) s.toks N tN V tV 0 tm rm, siO ba V tV 0, listO [] 0, dcO (W3 w a b c) none]) (fun B1 => gDS it (B1 + 2) (B1 + 3) B x) true dsN ?_ (by decide) ?_ ?_
 · rfl
 · cases ba <;> cases a <;> (intro B1; kernel_rfl)
 · exact fun B1 s' p' hB h1 b1 => K B1 s' p' hB h1 b1
theorem duC0 (H : HpW (W3 w a b c) s.heap [(it, siO ba V tV 0), (acc, listO [] 0), (D, dcO (W3 w a b c) none)])
   (K : ∀ s' p', HpW (W3 w a b c) s'.heap [(it, siO ba V tV 0), (acc, listO [] 0), (D, dcO (W3 w a b c) none)] → Beh [it, acc, D] s s' → wpCode (model prg (W3 w a b c)) (gDL it acc D F x) R p' s') :
   wpCode (model prg (W3 w a b c)) (gDS it acc D F x) R p s := by
 refine code_mn (c := cDS it acc D F) rfl (sn_again H (match c with | true => 1 | false => 11) (match c, ba with | true, _ => 0 | false, true => 17039425 | false, false => 17039425) [] [0,1,2] (fun _ => [siO ba V tV 0, listO [] 0, dcO (W3 w a b c) none]) (fun _ => gDL it acc D F x) dsN ?_ (by decide) ?_ ?_)
 · rfl
 · cases c <;> cases ba <;> cases a <;> (intro B; kernel_rfl)
 · exact fun B s' p' hB h1 b1 => K s' p' h1 b1
theorem duTn (hc : (Nat.blt i V.cps.toList.length && decide (0 ≤ ((i : Nat) : Int)) && Nat.beq 0 0) = true) (hh : hasS ⟨#[32,40,41,60,62,64,44,59,58,92,34,47,91,93,63,61]⟩ ⟨#[V.cps.toList.getD i 0]⟩ = false)  (H : HpW (W3 w a b c) s.heap [(it, siO ba V tV i), (acc, listO vs ca), (D, dcO (W3 w a b c) dc)])
   (K : ∀ s' p' k v, HpW (W3 w a b c) s'.heap [(it, siO ba V tV (i + 1)), (acc, listO vs ca), (D, dcO (W3 w a b c) (some (k, v)))] → Beh [it, acc, D] s s' → wpCode (model prg (W3 w a b c)) (gDL it acc D F x) R p' s') :
   wpCode (model prg (W3 w a b c)) (gDL it acc D F x) R p s := by
 cases dc with
 | none =>
   refine code_mn (c := cDL it acc D F) rfl (sn_again H 15 (match ba with | true => 209430780417 | false => 209430780481) [((Nat.blt i V.cps.toList.length && decide (0 ≤ ((i : Nat) : Int)) && Nat.beq 0 0), true), (hasS ⟨#[32,40,41,60,62,64,44,59,58,92,34,47,91,93,63,61]⟩ ⟨#[V.cps.toList.getD i 0]⟩, false)] [0,1,2] (fun _ => [siO ba V tV (i + 1), listO vs ca, dcO (W3 w a b c) (some (s.toks + 1,.str ⟨#[V.cps.toList.getD i 0]⟩ s.toks))]) (fun _ => gDL it acc D F x) ?_ ?_ (by decide) ?_ ?_)
   · exact dsC hc (dsC hh dsN)
   · rfl
   · cases ba <;> cases a <;> (intro B; kernel_rfl)
   · exact fun B s' p' hB h1 b1 => K s' p' _ _ h1 b1
 | some z =>
   obtain ⟨k0, v0⟩ := z
   refine code_mn (c := cDL it acc D F) rfl (sn_again H 15 (match ba with | true => 209430780417 | false => 209430780481) [((Nat.blt i V.cps.toList.length && decide (0 ≤ ((i : Nat) : Int)) && Nat.beq 0 0), true), (hasS ⟨#[32,40,41,60,62,64,44,59,58,92,34,47,91,93,63,61]⟩ ⟨#[V.cps.toList.getD i 0]⟩, false)] [0,1,2] (fun _ => [siO ba V tV (i + 1), listO vs ca, dcO (W3 w a b c) (some (k0,.str ⟨#[V.cps.toList.getD i 0]⟩ s.toks))]) (fun _ => gDL it acc D F x) ?_ ?_ (by decide) ?_ ?_)
   · exact dsC hc (dsC hh dsN)
   · rfl
   · cases ba <;> cases a <;> (intro B; kernel_rfl)
   · exact fun B s' p' hB h1 b1 => K s' p' _ _ h1 b1
theorem duTy (hc : (Nat.blt i V.cps.toList.length && decide (0 ≤ ((i : Nat) : Int)) && Nat.beq 0 0) = true) (hh : hasS ⟨#[32,40,41,60,62,64,44,59,58,92,34,47,91,93,63,61]⟩ ⟨#[V.cps.toList.getD i 0]⟩ = true) (hf : fits vs.length = true) (H : HpW (W3 w a b c) s.heap [(it, siO ba V tV i), (acc, listO vs ca), (D, dcO (W3 w a b c) dc)])
   (K : ∀ s' p' k v, HpW (W3 w a b c) s'.heap [(it, siO ba V tV (i + 1)), (acc, listO (vs ++ [.str ⟨#[V.cps.toList.getD i 0]⟩ s.toks]) (ca + 1)), (D, dcO (W3 w a b c) (some (k, v)))] → Beh [it, acc, D] s s' → wpCode (model prg (W3 w a b c)) (gDL it acc D F x) R p' s') :
   wpCode (model prg (W3 w a b c)) (gDL it acc D F x) R p s := by
 cases dc with
 | none =>
   refine code_mn (c := cDL it acc D F) rfl (sn_again H 18 (match ba with | true => 46456774727571969 | false => 46456774727572033) [((Nat.blt i V.cps.toList.length && decide (0 ≤ ((i : Nat) : Int)) && Nat.beq 0 0), true), (hasS ⟨#[32,40,41,60,62,64,44,59,58,92,34,47,91,93,63,61]⟩ ⟨#[V.cps.toList.getD i 0]⟩, true), (fits vs.length, true)] [0,1,2] (fun _ => [siO ba V tV (i + 1), listO (vs ++ [.str ⟨#[V.cps.toList.getD i 0]⟩ s.toks]) (ca + 1), dcO (W3 w a b c) (some (s.toks + 1,.str ⟨#[V.cps.toList.getD i 0]⟩ s.toks))]) (fun _ => gDL it acc D F x) ?_ ?_ (by decide) ?_ ?_)
   · exact dsC hc (dsC hh (dsC hf dsN))
   · rfl
   · cases ba <;> cases a <;> (intro B; kernel_rfl)
   · exact fun B s' p' hB h1 b1 => K s' p' _ _ h1 b1
 | some z =>
   obtain ⟨k0, v0⟩ := z
   refine code_mn (c := cDL it acc D F) rfl (sn_again H 18 (match ba with | true => 46456774727571969 | false => 46456774727572033) [((Nat.blt i V.cps.toList.length && decide (0 ≤ ((i : Nat) : Int)) && Nat.beq 0 0), true), (hasS ⟨#[32,40,41,60,62,64,44,59,58,92,34,47,91,93,63,61]⟩ ⟨#[V.cps.toList.getD i 0]⟩, true), (fits vs.length, true)] [0,1,2] (fun _ => [siO ba V tV (i + 1), listO (vs ++ [.str ⟨#[V.cps.toList.getD i 0]⟩ s.toks]) (ca + 1), dcO (W3 w a b c) (some (k0,.str ⟨#[V.cps.toList.getD i 0]⟩ s.toks))]) (fun _ => gDL it acc D F x) ?_ ?_ (by decide) ?_ ?_)
   · exact dsC hc (dsC hh (dsC hf dsN))
   · rfl
   · cases ba <;> cases a <;> (intro B; kernel_rfl)
   · exact fun B s' p' hB h1 b1 => K s' p' _ _ h1 b1
theorem duTe (H : HpW (W3 w a b c) s.heap [(it, siO ba V tV i), (acc, listO vs ca), (D, dcO (W3 w a b c) dc)])
   (K : ∀ B s' p', HpW (W3 w a b c) s'.heap [(it, siO ba V tV i), (acc, listO vs ca), (D, dcO (W3 w a b c) dc)] → Beh [it, acc, D] s s' → wpCode (model prg (W3 w a b c)) ⟨.call (.builtin (nxB ba)) ⟨[.ref it], []⟩, none, none, (cDL it acc D F, duPos) :: (.func duDef.2.1 (envDU F), duPos) :: x.l, none⟩ (fun r s'' => Mn (model prg (W3 w a b c)) R (cfΓ (rT (W3 w a b c) s B V tV ba i vs ca dc it acc D F x p)) (cfp (rT (W3 w a b c) s B V tV ba i vs ca dc it acc D F x p)) (cfκ (rT (W3 w a b c) s B V tV ba i vs ca dc it acc D F x p)) (ansT (rT (W3 w a b c) s B V tV ba i vs ca dc it acc D F x p) r) s'') p' s') :
   wpCode (model prg (W3 w a b c)) (gDL it acc D F x) R p s := by
 refine code_mn (c := cDL it acc D F) rfl (sn_call H 2 1 [] [0,1,2] (fun _ => [siO ba V tV i, listO vs ca, dcO (W3 w a b c) dc]) (fun _ => ⟨.call (.builtin (nxB ba)) ⟨[.ref it], []⟩, none, none, (cDL it acc D F, duPos) :: (.func duDef.2.1 (envDU F), duPos) :: x.l, none⟩) true dsN ?_ (by decide) ?_ ?_)
 · cases dc <;> rfl
 · cases ba <;> cases a <;> cases dc <;> (intro B; kernel_rfl)
 · exact fun B s' p' hB h1 b1 => K B s' p' h1 b1
theorem duTz (H : HpW (W3 w a b c) s1.heap [(e, excNew "StopIteration" t)]) (hR : ∀ s', HpW (W3 w a b c) s'.heap [(e, excNew "StopIteration" t)] → Beh [e] s1 s' → R (.ok .next) s') :
   Mn (model prg (W3 w a b c)) R (cfΓ (rT (W3 w a b c) s B V tV ba i vs ca dc it acc D F x p)) (cfp (rT (W3 w a b c) s B V tV ba i vs ca dc it acc D F x p)) (cfκ (rT (W3 w a b c) s B V tV ba i vs ca dc it acc D F x p)) (ansT (rT (W3 w a b c) s B V tV ba i vs ca dc it acc D F x p) (.error (.ref e))) s1 := by
 refine sn_ok H 1 1 [] [0] (fun _ => [excNew "StopIteration" t]) (fun _ => .next) dsN ?_ (by decide) ?_ ?_
 · rfl
 · cases ba <;> cases a <;> cases dc <;> (intro B2; kernel_rfl)
 · exact fun B2 s3 _ h2 b2 => hR s3 h2 b2
theorem duD3 (H : HpW (W3 w a b c) s2.heap [(B, duFr (W3 w a b c) s.toks N tN V tV 0 tm rm), (B1 + 2, listO vs ca), (B1 + 3, dcO (W3 w a b c) (some (k, v)))])
   (K : ∀ B2 s' p', s2.heap.objs.size = B2 + 3 → HpW (W3 w a b c) s'.heap [(B, duFr (W3 w a b c) s.toks N tN V tV 0 tm rm), (B1 + 2, listO vs ca), (B2 + 3, listO [] 0)] → Beh [B, B1 + 2, B1 + 3] s2 s' → wpCode (model prg (W3 w a b c)) ⟨.call (.builtin "list.__ne__") ⟨[.ref (B1 + 2), .ref (B2 + 3)], []⟩, none, none, (.func duDef.2.1 (envDU B), ⟨785,21,785,82⟩) :: x.l, none⟩ (fun r s'' => Mn (model prg (W3 w a b c)) R (cfΓ (rD3 (W3 w a b c) s B N tN V tV tm rm x p s1 B1 it ba s2 B2 vs ca k v)) (cfp (rD3 (W3 w a b c) s B N tN V tV tm rm x p s1 B1 it ba s2 B2 vs ca k v)) (cfκ (rD3 (W3 w a b c) s B N tN V tV tm rm x p s1 B1 it ba s2 B2 vs ca k v)) (ansT (rD3 (W3 w a b c) s B N tN V tV tm rm x p s1 B1 it ba s2 B2 vs ca k v) r) s'') p' s') :
   Mn (model prg (W3 w a b c)) R (cfΓ (rD2 (W3 w a b c) s B N tN V tV tm rm x p s1 B1 it ba)) (cfp (rD2 (W3 w a b c) s B N tN V tV tm rm x p s1 B1 it ba)) (cfκ (rD2 (W3 w a b c) s B N tN V tV tm rm x p s1 B1 it ba)) (ansT (rD2 (W3 w a b c) s B N tN V tV tm rm x p s1 B1 it ba) (.ok .next)) s2 := by
 refine sn_call H 13 2215129283 [] [0,1,3] (fun B2 => [duFr (W3 w a b c) s.toks N tN V tV 0 tm rm, listO vs ca, listO [] 0]) (fun B2 => ⟨.call (.builtin "list.__ne__") ⟨[.ref (B1 + 2), .ref (B2 + 3)], []⟩, none, none, (.func duDef.2.1 (envDU B), ⟨785,21,785,82⟩) :: x.l, none⟩) true dsN ?_ (by decide) ?_ ?_
 · rfl
 · cases ba <;> cases a <;> (intro B2; kernel_rfl)
 · exact fun B2 s' p' hB h1 b1 => K B2 s' p' hB h1 b1
theorem duD4 (H : HpW (W3 w a b c) s3.heap [(B, duFr (W3 w a b c) s.toks N tN V tV 0 tm rm)])
   (K : ∀ B3 s' p', HpW (W3 w a b c) s'.heap [(B, duFr (W3 w a b c) s.toks N tN V tV 0 tm rm)] → Beh [B] s3 s' → wpCode (model prg (W3 w a b c)) ⟨.call (.ref 777) ⟨[.str N tN, .str V tV, .bool rm], []⟩, none, none, (.func duDef.2.1 (envDU B), ⟨787,11,787,41⟩) :: x.l, none⟩ (fun r s'' => Mn (model prg (W3 w a b c)) R (cfΓ (rD4 (W3 w a b c) s B N tN V tV tm rm x p s1 B1 it ba s2 B2 vs ca k v s3 B3)) (cfp (rD4 (W3 w a b c) s B N tN V tV tm rm x p s1 B1 it ba s2 B2 vs ca k v s3 B3)) (cfκ (rD4 (W3 w a b c) s B N tN V tV tm rm x p s1 B1 it ba s2 B2 vs ca k v s3 B3)) (ansT (rD4 (W3 w a b c) s B N tN V tV tm rm x p s1 B1 it ba s2 B2 vs ca k v s3 B3) r) s'') p' s') :
   Mn (model prg (W3 w a b c)) R (cfΓ (rD3 (W3 w a b c) s B N tN V tV tm rm x p s1 B1 it ba s2 B2 vs ca k v)) (cfp (rD3 (W3 w a b c) s B N tN V tV tm rm x p s1 B1 it ba s2 B2 vs ca k v)) (cfκ (rD3 (W3 w a b c) s B N tN V tV tm rm x p s1 B1 it ba s2 B2 vs ca k v)) (ansT (rD3 (W3 w a b c) s B N tN V tV tm rm x p s1 B1 it ba s2 B2 vs ca k v) (.ok (.ret (.bool false)))) s3 := by
 refine sn_call H 12 266304 [] [0] (fun _ => [duFr (W3 w a b c) s.toks N tN V tV 0 tm rm]) (fun _ => ⟨.call (.ref 777) ⟨[.str N tN, .str V tV, .bool rm], []⟩, none, none, (.func duDef.2.1 (envDU B), ⟨787,11,787,41⟩) :: x.l, none⟩) true dsN ?_ (by decide) ?_ ?_
 · rfl
 · cases ba <;> cases a <;> (intro B3; kernel_rfl)
 · exact fun B3 s' p' hB h1 b1 => K B3 s' p' h1 b1
theorem duD4r (H : HpW (W3 w a b c) s4.heap []) {w1 : Value} (hw : (∃ u, w1 = .ref u) ∨ ∃ y t, w1 = .str y t) (hR : ∀ s', Beh [] s4 s' → HpW (W3 w a b c) s'.heap [] → R (.ok (.ret w1)) s') : Mn (model prg (W3 w a b c)) R (cfΓ (rD4 (W3 w a b c) s B N tN V tV tm rm x p s1 B1 it ba s2 B2 vs ca k v s3 B3)) (cfp (rD4 (W3 w a b c) s B N tN V tV tm rm x p s1 B1 it ba s2 B2 vs ca k v s3 B3)) (cfκ (rD4 (W3 w a b c) s B N tN V tV tm rm x p s1 B1 it ba s2 B2 vs ca k v s3 B3)) (ansT (rD4 (W3 w a b c) s B N tN V tV tm rm x p s1 B1 it ba s2 B2 vs ca k v s3 B3) (.ok (.ret w1))) s4 := by
 rcases hw with ⟨u, rfl⟩ | ⟨y, t, rfl⟩
 · refine sn_ok H 1 0 [] [] (fun _ => []) (fun _ => .ret (.ref u)) dsN rfl (by decide) ?_ ?_
   · cases ba <;> cases a <;> (intro B4; kernel_rfl)
   · exact fun B4 s' _ h1 b1 => hR s' b1 h1
 · refine sn_ok H 1 0 [] [] (fun _ => []) (fun _ => .ret (.str y t)) dsN rfl (by decide) ?_ ?_
   · cases ba <;> cases a <;> (intro B4; kernel_rfl)
   · exact fun B4 s' _ h1 b1 => hR s' b1 h1
theorem duD5 (H : HpW (W3 w a b c) s3.heap [(B, duFr (W3 w a b c) s.toks N tN V tV 0 tm rm)])
   (K : ∀ B3 s' p', HpW (W3 w a b c) s'.heap [(B, duFr (W3 w a b c) s.toks N tN V tV 0 tm rm)] → Beh [B] s3 s' → wpCode (model prg (W3 w a b c)) ⟨.call (.builtin "str.__add__") ⟨[.str N tN, .str ⟨#[61]⟩ s3.toks], []⟩, none, none, (.func duDef.2.1 (envDU B), ⟨786,16,786,26⟩) :: x.l, none⟩ (fun r s'' => Mn (model prg (W3 w a b c)) R (cfΓ (rD5 (W3 w a b c) s B N tN V tV tm rm x p s1 B1 it ba s2 B2 vs ca k v s3 B3)) (cfp (rD5 (W3 w a b c) s B N tN V tV tm rm x p s1 B1 it ba s2 B2 vs ca k v s3 B3)) (cfκ (rD5 (W3 w a b c) s B N tN V tV tm rm x p s1 B1 it ba s2 B2 vs ca k v s3 B3)) (ansT (rD5 (W3 w a b c) s B N tN V tV tm rm x p s1 B1 it ba s2 B2 vs ca k v s3 B3) r) s'') p' s') :
   Mn (model prg (W3 w a b c)) R (cfΓ (rD3 (W3 w a b c) s B N tN V tV tm rm x p s1 B1 it ba s2 B2 vs ca k v)) (cfp (rD3 (W3 w a b c) s B N tN V tV tm rm x p s1 B1 it ba s2 B2 vs ca k v)) (cfκ (rD3 (W3 w a b c) s B N tN V tV tm rm x p s1 B1 it ba s2 B2 vs ca k v)) (ansT (rD3 (W3 w a b c) s B N tN V tV tm rm x p s1 B1 it ba s2 B2 vs ca k v) (.ok (.ret (.bool true)))) s3 := by
 refine sn_call H 8 1 [] [0] (fun _ => [duFr (W3 w a b c) s.toks N tN V tV 0 tm rm]) (fun _ => ⟨.call (.builtin "str.__add__") ⟨[.str N tN, .str ⟨#[61]⟩ s3.toks], []⟩, none, none, (.func duDef.2.1 (envDU B), ⟨786,16,786,26⟩) :: x.l, none⟩) true dsN ?_ (by decide) ?_ ?_
 · rfl
 · cases ba <;> cases a <;> (intro B3; kernel_rfl)
 · exact fun B3 s' p' hB h1 b1 => K B3 s' p' h1 b1
theorem duD6 (H : HpW (W3 w a b c) s4.heap [(B, duFr (W3 w a b c) s.toks N tN V tV 0 tm rm)])
   (K : ∀ B4 s' p', HpW (W3 w a b c) s'.heap [(B, duFr (W3 w a b c) s.toks N tN V tV 0 tm rm)] → Beh [B] s4 s' → wpCode (model prg (W3 w a b c)) ⟨.call (.builtin "str.__add__") ⟨[.str v4 t4,.str V tV], []⟩, none, none, (.func duDef.2.1 (envDU B), ⟨786,16,786,34⟩) :: x.l, none⟩ (fun r s'' => Mn (model prg (W3 w a b c)) R (cfΓ (rD6 (W3 w a b c) s B N tN V tV tm rm x p s1 B1 it ba s2 B2 vs ca k v s3 B3 s4 B4 v4 t4)) (cfp (rD6 (W3 w a b c) s B N tN V tV tm rm x p s1 B1 it ba s2 B2 vs ca k v s3 B3 s4 B4 v4 t4)) (cfκ (rD6 (W3 w a b c) s B N tN V tV tm rm x p s1 B1 it ba s2 B2 vs ca k v s3 B3 s4 B4 v4 t4)) (ansT (rD6 (W3 w a b c) s B N tN V tV tm rm x p s1 B1 it ba s2 B2 vs ca k v s3 B3 s4 B4 v4 t4) r) s'') p' s') :
   Mn (model prg (W3 w a b c)) R (cfΓ (rD5 (W3 w a b c) s B N tN V tV tm rm x p s1 B1 it ba s2 B2 vs ca k v s3 B3)) (cfp (rD5 (W3 w a b c) s B N tN V tV tm rm x p s1 B1 it ba s2 B2 vs ca k v s3 B3)) (cfκ (rD5 (W3 w a b c) s B N tN V tV tm rm x p s1 B1 it ba s2 B2 vs ca k v s3 B3)) (ansT (rD5 (W3 w a b c) s B N tN V tV tm rm x p s1 B1 it ba s2 B2 vs ca k v s3 B3) (.ok (.ret (.str v4 t4)))) s4 := by
 refine sn_call H 4 1 [] [0] (fun _ => [duFr (W3 w a b c) s.toks N tN V tV 0 tm rm]) (fun _ => ⟨.call (.builtin "str.__add__") ⟨[.str v4 t4,.str V tV], []⟩, none, none, (.func duDef.2.1 (envDU B), ⟨786,16,786,34⟩) :: x.l, none⟩) true dsN ?_ (by decide) ?_ ?_
 · rfl
 · cases ba <;> cases a <;> (intro B4; kernel_rfl)
 · exact fun B4 s' p' hB h1 b1 => K B4 s' p' h1 b1
theorem duD7 (H : HpW (W3 w a b c) s5.heap []) (hR : ∀ s' u, HpW (W3 w a b c) s'.heap [(u, listO [.str v5 t5] 0)] → Beh [] s5 s' → s5.heap.get? u = none → R (.ok (.ret (.ref u))) s') : Mn (model prg (W3 w a b c)) R (cfΓ (rD6 (W3 w a b c) s B N tN V tV tm rm x p s1 B1 it ba s2 B2 vs ca k v s3 B3 s4 B4 v4 t4)) (cfp (rD6 (W3 w a b c) s B N tN V tV tm rm x p s1 B1 it ba s2 B2 vs ca k v s3 B3 s4 B4 v4 t4)) (cfκ (rD6 (W3 w a b c) s B N tN V tV tm rm x p s1 B1 it ba s2 B2 vs ca k v s3 B3 s4 B4 v4 t4)) (ansT (rD6 (W3 w a b c) s B N tN V tV tm rm x p s1 B1 it ba s2 B2 vs ca k v s3 B3 s4 B4 v4 t4) (.ok (.ret (.str v5 t5)))) s5 := by
 refine sn_ok H 1 0 [] [0] (fun _ => [listO [.str v5 t5] 0]) (fun B => .ret (.ref B)) dsN rfl (by decide) ?_ ?_
 · cases ba <;> cases a <;> (intro B4; kernel_rfl)
 · exact fun B5 s' hB h1 b1 => hR s' _ h1 b1 (Heap.get?_none_of_le (Nat.le_of_eq hB))
theorem duM1 (h0 : (V.cps.toList == []) = false) (H : HpW (W3 w a b c) s.heap [])
   (K : ∀ B s' p', s.heap.objs.size = B → HpW (W3 w a b c) s'.heap [(B, duFr (W3 w a b c) s.toks N tN V tV 1 tm rm)] → Beh [] s s' → wpCode (model prg (W3 w a b c)) ⟨.call (.builtin "str.__add__") ⟨[.str N tN, .str ⟨#[61]⟩ (s.toks + 6)], []⟩, none, none, (.func duDef.2.1 (envDU B), ⟨786,16,786,26⟩) :: x.l, none⟩ (fun r s'' => Mn (model prg (W3 w a b c)) R (cfΓ (rM1 (W3 w a b c) s B N tN V tV tm rm x p)) (cfp (rM1 (W3 w a b c) s B N tN V tV tm rm x p)) (cfκ (rM1 (W3 w a b c) s B N tN V tV tm rm x p)) (ansT (rM1 (W3 w a b c) s B N tN V tV tm rm x p) r) s'') p' s') :
   wpCode (model prg (W3 w a b c)) (gDU N tN V tV 1 tm rm x) R p s := by
 refine code_mn (c := cDU N tN V tV 1 tm rm) rfl (sn_call H 44 1315618319367379705200381952 [(V.cps.toList == [], false), (true, true)] [0] (fun B => [duFr (W3 w a b c) s.toks N tN V tV 1 tm rm]) (fun B => ⟨.call (.builtin "str.__add__") ⟨[.str N tN, .str ⟨#[61]⟩ (s.toks + 6)], []⟩, none, none, (.func duDef.2.1 (envDU B), ⟨786,16,786,26⟩) :: x.l, none⟩) true ?_ rfl (by decide) ?_ ?_)
 · exact dsC h0 (dsC rfl dsN)
 · cases a <;> (intro B; kernel_rfl)
 · exact fun B s' p' hB h1 b1 => K B s' p' hB h1 b1
theorem duM2 (H : HpW (W3 w a b c) s1.heap [(B, duFr (W3 w a b c) s.toks N tN V tV 1 tm rm)])
   (K : ∀ B1 s' p', HpW (W3 w a b c) s'.heap [(B, duFr (W3 w a b c) s.toks N tN V tV 1 tm rm)] → Beh [B] s1 s' → wpCode (model prg (W3 w a b c)) ⟨.call (.builtin "str.__add__") ⟨[.str v4 t4,.str V tV], []⟩, none, none, (.func duDef.2.1 (envDU B), ⟨786,16,786,34⟩) :: x.l, none⟩ (fun r s'' => Mn (model prg (W3 w a b c)) R (cfΓ (rM2 (W3 w a b c) s B N tN V tV tm rm x p s1 B1 v4 t4)) (cfp (rM2 (W3 w a b c) s B N tN V tV tm rm x p s1 B1 v4 t4)) (cfκ (rM2 (W3 w a b c) s B N tN V tV tm rm x p s1 B1 v4 t4)) (ansT (rM2 (W3 w a b c) s B N tN V tV tm rm x p s1 B1 v4 t4) r) s'') p' s') :
   Mn (model prg (W3 w a b c)) R (cfΓ (rM1 (W3 w a b c) s B N tN V tV tm rm x p)) (cfp (rM1 (W3 w a b c) s B N tN V tV tm rm x p)) (cfκ (rM1 (W3 w a b c) s B N tN V tV tm rm x p)) (ansT (rM1 (W3 w a b c) s B N tN V tV tm rm x p) (.ok (.ret (.str v4 t4)))) s1 := by
 refine sn_call H 4 1 [] [0] (fun _ => [duFr (W3 w a b c) s.toks N tN V tV 1 tm rm]) (fun _ => ⟨.call (.builtin "str.__add__") ⟨[.str v4 t4,.str V tV], []⟩, none, none, (.func duDef.2.1 (envDU B), ⟨786,16,786,34⟩) :: x.l, none⟩) true dsN ?_ (by decide) ?_ ?_
 · rfl
 · cases a <;> (intro B1; kernel_rfl)
 · exact fun B1 s' p' hB h1 b1 => K B1 s' p' h1 b1
theorem duM3 (H : HpW (W3 w a b c) s5.heap []) (hR : ∀ s' u, HpW (W3 w a b c) s'.heap [(u, listO [.str v5 t5] 0)] → Beh [] s5 s' → s5.heap.get? u = none → R (.ok (.ret (.ref u))) s') : Mn (model prg (W3 w a b c)) R (cfΓ (rM2 (W3 w a b c) s B N tN V tV tm rm x p s1 B1 v4 t4)) (cfp (rM2 (W3 w a b c) s B N tN V tV tm rm x p s1 B1 v4 t4)) (cfκ (rM2 (W3 w a b c) s B N tN V tV tm rm x p s1 B1 v4 t4)) (ansT (rM2 (W3 w a b c) s B N tN V tV tm rm x p s1 B1 v4 t4) (.ok (.ret (.str v5 t5)))) s5 := by
 refine sn_ok H 1 0 [] [0] (fun _ => [listO [.str v5 t5] 0]) (fun B => .ret (.ref B)) dsN rfl (by decide) ?_ ?_
 · cases a <;> (intro B4; kernel_rfl)
 · exact fun B5 s' hB h1 b1 => hR s' _ h1 b1 (Heap.get?_none_of_le (Nat.le_of_eq hB))
end
end Mine
end
section
namespace Mine
open PySem PySem.W PySem.Calls
section
variable {w : World} {Γ : Ctx} {p : Pos} {s : Shared} {R : Result → Shared → Prop}
theorem iter_call {V : Str} {tV : Nat} (hΓ : Γ.code = .call (.builtin "str.__iter__") ⟨[.str V tV], []⟩) (H : HpW w s.heap [])
   (hR : ∀ s' ba, HpW w s'.heap [(s.heap.objs.size, siO ba V tV 0)] → Beh [] s s' → R (.ok (.ret (.ref s.heap.objs.size))) s') : wpCode (model prg w) Γ R p s := by
 refine slot_at hΓ F.slot_str_iter (typeIs_str ..) F.entry_str_iter (F.args_str_iter_1 _) ?_
 have key : ∀ ba : Bool, wpAny (model prg w) (arOf Γ).in1 (newFields (tyB ba) [.str V tV, rawInt 0] >>= fun v => ret v) (fun fin s' => match fin with | .done f => R (.ok f) s' | .again c' => c'.quiet = true ∧ codeAny (model prg w) (arOf Γ) c' R s') (fun e s' => R (.error e) s') s := fun ba => by
   unfold newFields
   refine wpAny_bind (wpAny_newObj_type ?_ (by size_fits))
   refine wpAny_pure (hR _ ba ?_ (beh_push _ _))
   exact Hp.push (L := []) H rfl
 show wpAny _ _ (newFields (if true && V.cps.all (· < 128) then "str_ascii_iterator" else "str_iterator") [.str V tV, rawInt 0] >>= fun v => ret v) _ _ s
 cases h : V.cps.all (· < 128) with
 | true => exact key true
 | false => exact key false
theorem str_end {V : Str} {tV it i : Nat} {ba : Bool} (hΓ : Γ.code = .call (.builtin (nxB ba)) ⟨[.ref it], []⟩) (hh : Γ.handled = none) (H : HpW w s.heap [(it, siO ba V tV i)]) (hx : V.cps[i]? = none)
   (hR : ∀ s' e t, HpW w s'.heap [(t, tup0), (e, excNew "StopIteration" t)] → Beh [it] s s' → s.heap.get? e = none → s.heap.get? t = none → R (.error (.ref e)) s') : wpCode (model prg w) Γ R p s := by
 have ho := H.own (it, siO ba V tV i) (by simp)
 have fin : ∀ s1 : Shared, s1.heap = s.heap.update it (Obj.mapFields (·.setIfInBounds 0 Value.none)) → Beh [it] s s1 → R (.error (.ref (s1.heap.objs.size + 1))) { s1 with heap := (s1.heap.push tup0).push (excNew "StopIteration" s1.heap.objs.size) } := fun s1 e1 b1 => by
   have H1 : HpW w s1.heap ([] ++ (it, siE ba i) :: []) := by
     rw [e1]
     exact Hp.upd (A := []) (C := []) (f := Obj.mapFields (·.setIfInBounds 0 Value.none)) H rfl
   have H2 := (H1.push (o := tup0) rfl).push (o := excNew "StopIteration" s1.heap.objs.size) rfl
   rw [Heap.size_push] at H2
   have hs : s1.heap.objs.size = s.heap.objs.size := by rw [e1]; exact (Heap.SameBut.update s.heap it (Obj.mapFields (·.setIfInBounds 0 Value.none))).1
   refine hR _ _ _ (Hp.sub (.cons _ (List.Sublist.refl _)) H2) (Beh.trans (Beh.trans b1 (beh_push _ tup0) (by simp)) (beh_push _ _) (by simp)) ?_ ?_
   · exact Heap.get?_none_of_le (Nat.le_succ_of_le (Nat.le_of_eq hs.symm))
   · exact Heap.get?_none_of_le (Nat.le_of_eq hs.symm)
 cases ba with
 | true =>
   refine slot_at hΓ F.slot_str_ascii_iterator_next ⟨_, ho, rfl⟩ F.entry_str_ascii_iterator_next (F.args_str_ascii_iterator_next_1 _) ?_
   show wpAny _ _ (field (.ref it) 0 >>= _) _ _ s
   refine wpAny_bind (wpAny_field ho rfl (x := .str V tV) rfl ?_)
   show wpAny _ _ (field (.ref it) 1 >>= _) _ _ s
   refine wpAny_bind (wpAny_field ho rfl (x := .int i 0) rfl ?_)
   simp only [Int.toNat_natCast, hx]
   exact wpAny_bind (wpAny_rule (wpAny_bind (wpAny_setField ho rfl (by simp) (wpAny_bind (wpAny_letGo (wpAny_stop hh (fin _ rfl (beh_upd s it _))))))))
 | false =>
   refine slot_at hΓ F.slot_str_iterator_next ⟨_, ho, rfl⟩ F.entry_str_iterator_next (F.args_str_iterator_next_1 _) ?_
   show wpAny _ _ (field (.ref it) 0 >>= _) _ _ s
   refine wpAny_bind (wpAny_field ho rfl (x := .str V tV) rfl ?_)
   show wpAny _ _ (field (.ref it) 1 >>= _) _ _ s
   refine wpAny_bind (wpAny_field ho rfl (x := .int i 0) rfl ?_)
   simp only [Int.toNat_natCast, hx]
   exact wpAny_bind (wpAny_rule (wpAny_bind (wpAny_setField ho rfl (by simp) (wpAny_bind (wpAny_letGo (wpAny_stop hh (fin _ rfl (beh_upd s it _))))))))
end
noncomputable def spS : Str := ⟨#[32,40,41,60,62,64,44,59,58,92,34,47,91,93,63,61]⟩
section
variable {w : World} {a b c : Bool} {s : Shared} {F it acc D i ca : Nat} {V : Str} {tV : Nat} {ba : Bool} {vs : List Value} {x : S0} {p : Pos} {R : Result → Shared → Prop} {dc : Option (Nat × Value)}
theorem du_loop (n : Nat) : ∀ {i ca : Nat} {vs : List Value} {dc : Option (Nat × Value)} {s : Shared} {p : Pos}, n + i = V.cps.toList.length → vs.length ≤ i → i + n ≤ 1000 →
   HpW (W3 w a b c) s.heap [(it, siO ba V tV i), (acc, listO vs ca), (D, dcO (W3 w a b c) dc)] →
   (∀ s' vs' ca' dc', HpW (W3 w a b c) s'.heap [(acc, listO vs' ca'), (D, dcO (W3 w a b c) dc')] → Beh [it, acc, D] s s' → vs'.length ≤ 1000 → (vs' = [] ↔ vs = [] ∧ ∀ k ∈ V.cps.toList.drop i, k ∉ spS.cps.toList) → ((0 < n ∨ dc ≠ none) → ∃ k v, dc' = some (k, v)) → R (.ok .next) s') →
   wpCode (model prg (W3 w a b c)) (gDL it acc D F x) R p s := by
 induction n with
 | zero =>
   intro i ca vs dc s p hn hv hl H hR
   refine duTe H fun B s1 p1 h1 b1 => ?_
   have hx : V.cps[i]? = none := by
     rw [Array.getElem?_eq_none_iff]
     have : V.cps.toList.length = V.cps.size := by simp
     omega
   refine str_end (V := V) (tV := tV) (it := it) (i := i) (hΓ := by rfl) (hh := by rfl) (Hp.sub (List.Sublist.cons_cons _ (List.nil_sublist _)) h1) hx fun s2 e t h2 b2 de dt => ?_
   have D1 : Dead s s1 := dead_of b1 fun z hz => by
     simp only [List.mem_cons, List.not_mem_nil, or_false] at hz
     rcases hz with rfl | rfl | rfl
     · rw [h1.own (_, siO ba V tV i) (by simp)]; simp
     · rw [h1.own (_, listO vs ca) (by simp)]; simp
     · rw [h1.own (_, dcO (W3 w a b c) dc) (by simp)]; simp
   have h3 := Hp.join2 (A := [(it, siO ba V tV i)]) (C := [(acc, listO vs ca), (D, dcO (W3 w a b c) dc)]) h1 h2 b2 (fun z hz => .inl (by simpa using hz)) (fun z hz => .inr (by
     simp only [List.mem_cons, List.not_mem_nil, or_false] at hz
     rcases hz with rfl | rfl
     · exact dt
     · exact de))
   refine duTz (e := e) (t := t) (Hp.sub (List.Sublist.cons _ (List.Sublist.refl _)) h2) fun s3 h4 b4 => ?_
   have h5 := Hp.join2 (A := [(e, excNew "StopIteration" t)]) (C := [(acc, listO vs ca), (D, dcO (W3 w a b c) dc)]) (Hp.sub (List.Sublist.cons _ (List.Sublist.refl _)) h3) h4 b4 (fun z hz => .inl (by simpa using hz)) (fun z hz => .inl (by rw [List.mem_singleton.mp hz]; simp))
   refine hR s3 vs ca dc (Hp.sub (List.Sublist.cons _ (List.Sublist.refl _)) h5) ?_ (by omega) ?_ ?_
   · refine Beh.drop (as := [it, acc, D, e]) (Beh.trans (Beh.trans (Beh.widen b1 (by simp)) b2 (by simp)) b4 (by simp)) fun z hz => ?_
     simp only [List.mem_cons, List.not_mem_nil, or_false] at hz
     rcases hz with h | h | h | h
     · exact .inl (by simp [h])
     · exact .inl (by simp [h])
     · exact .inl (by simp [h])
     · exact .inr (h ▸ D1 _ de)
   · rw [List.drop_eq_nil_of_le (by omega)]; simp
   · rintro (h | h)
     · omega
     · cases dc with
       | none => exact absurd rfl h
       | some z => exact ⟨z.1, z.2, rfl⟩
 | succ n ih =>
   intro i ca vs dc s p hn hv hl H hR
   have hi : i < V.cps.toList.length := by omega
   have hc : (Nat.blt i V.cps.toList.length && decide (0 ≤ ((i : Nat) : Int)) && Nat.beq 0 0) = true := by
     rw [show Nat.blt i V.cps.toList.length = true from Nat.ble_eq_true_of_le hi]; simp
   have hd : V.cps.toList.drop i = V.cps.toList.getD i 0 :: V.cps.toList.drop (i + 1) := by
     rw [List.drop_eq_getElem_cons hi, List.getD_eq_getElem?_getD, List.getElem?_eq_getElem hi]; rfl
   cases hh : hasS ⟨#[32,40,41,60,62,64,44,59,58,92,34,47,91,93,63,61]⟩ ⟨#[V.cps.toList.getD i 0]⟩ with
   | false =>
     have hk : V.cps.toList.getD i 0 ∉ spS.cps.toList := by
       rw [hasS_one] at hh; exact of_decide_eq_false hh
     refine duTn hc hh H fun s1 p1 k v h1 b1 => ih (by omega) (by omega) (by omega) h1 fun s2 vs' ca' dc' h2 b2 l2 e2 d2 => ?_
     refine hR s2 vs' ca' dc' h2 (Beh.trans b1 b2 (by simp)) l2 ?_ (fun _ => d2 (.inr (by simp)))
     rw [e2, hd, List.forall_mem_cons]; exact ⟨fun ⟨h1, h2⟩ => ⟨h1, hk, h2⟩, fun ⟨h1, _, h2⟩ => ⟨h1, h2⟩⟩
   | true =>
     have hk : V.cps.toList.getD i 0 ∈ spS.cps.toList := by
       rw [hasS_one] at hh; exact of_decide_eq_true hh
     refine duTy hc hh (fits_of (by omega)) H fun s1 p1 k v h1 b1 => ih (by omega) (by rw [List.length_append, List.length_singleton]; omega) (by omega) h1 fun s2 vs' ca' dc' h2 b2 l2 e2 d2 => ?_
     refine hR s2 vs' ca' dc' h2 (Beh.trans b1 b2 (by simp)) l2 ?_ (fun _ => d2 (.inr (by simp)))
     rw [e2, hd, List.forall_mem_cons]; exact ⟨fun ⟨h1, _⟩ => absurd h1 (by simp), fun ⟨_, h1, _⟩ => absurd hk h1⟩
end
noncomputable def DuK (w : World) (R : Result → Shared → Prop) (s : Shared) : Option (List (List Nat)) → Prop
 | some ts => ∀ s' u vs c', IsStrs vs ts → HpW w s'.heap [(u, listO vs c')] → Beh [] s s' → s.heap.get? u = none → R (.ok (.ret (.ref u))) s'
 | none => ∀ s' tk, HpW w s'.heap [] → Beh [] s s' → R (.ok (.ret (.str sNoC tk))) s'
noncomputable def isTs (k : Nat) : Bool := decide (k ∈ spS.cps.toList)
noncomputable def dueF (br : Option (List (List Nat))) (n v : List Nat) (mk : Bool) : Option (List (List Nat)) :=
 if v = [] then some [n] else if mk = true ∨ v.any isTs = true then some [n ++ [61] ++ v] else br
noncomputable abbrev bareC (n : List Nat) (tN : Nat) (v : List Nat) (tV : Nat) (rm : Bool) : Code := .call (.ref 777) ⟨[.str ⟨⟨n⟩⟩ tN, .str ⟨⟨v⟩⟩ tV, .bool rm], []⟩
noncomputable def duRet : Pos := ⟨787,11,787,41⟩
section
variable {w : World} {a b c : Bool} {s : Shared} {n v : List Nat} {tN tV tm : Nat} {rm : Bool} {x : S0} {p : Pos} {R : Result → Shared → Prop}
theorem du_spec (br : Option (List (List Nat))) (mk : Bool) (H : HpW (W3 w a b c) s.heap []) (hn : n.length ≤ 100) (hv : v.length ≤ 100)
   (hB : ∀ B s1 p1 R1, HpW (W3 w a b c) s1.heap [] → DuK (W3 w a b c) R1 s1 br → wpCode (model prg (W3 w a b c)) ⟨bareC n tN v tV rm, none, none, (.func duDef.2.1 (envDU B), duRet) :: x.l, none⟩ R1 p1 s1)
   (hR : DuK (W3 w a b c) R s (dueF br n v mk)) : wpCode (model prg (W3 w a b c)) (gDU ⟨⟨n⟩⟩ tN ⟨⟨v⟩⟩ tV (if mk then 1 else 0) tm rm x) R p s := by
 unfold dueF at hR
 cases v with
 | nil =>
   rw [if_pos rfl] at hR
   exact duE H fun s' u h1 b1 d1 => hR s' u [.str _ _] _ ⟨⟨_, rfl⟩, trivial⟩ h1 b1 d1
 | cons y l =>
   rw [if_neg (by simp)] at hR
   have h0 : ((⟨⟨y :: l⟩⟩ : Str).cps.toList == []) = false := rfl
   have ln : (⟨⟨n⟩⟩ : Str).length = n.length := rfl
   have lv : (⟨⟨y :: l⟩⟩ : Str).length = (y :: l).length := rfl
   cases mk with
   | true =>
     rw [if_pos (.inl rfl)] at hR
     refine duM1 h0 H fun B s1 p1 hB1 h1 b1 => ?_
     refine add_call rfl (by rw [ln]; show n.length + 1 ≤ 1000; omega) fun s2 t2 e2 b2 => ?_
     refine duM2 (toks_beh e2 b2 h1) fun B1 s3 p3 h3 b3 => ?_
     refine add_call rfl (show (n ++ [61]).length + (y :: l).length ≤ 1000 by rw [List.length_append]; simp only [List.length_singleton]; omega) fun s4 t4 e4 b4 => ?_
     refine duM3 (toks_beh e4 b4 h3).nil fun s5 u h5 b5 d5 => ?_
     have b14 : Beh [] s s4 := Beh.trans (beh_frame hB1 (Beh.trans b1 b2 (by simp)) b3) b4 (by simp)
     exact hR s5 u [.str _ _] _ ⟨⟨_, rfl⟩, trivial⟩ h5 (Beh.trans b14 b5 (by simp)) (dead_nil b14 _ d5)
   | false =>
     refine duD1 h0 H fun B s1 p1 hB1 h1 b1 => ?_
     refine iter_call rfl h1.nil fun s2 ba h2 b2 => ?_
     have dit : s1.heap.get? s1.heap.objs.size = none := Heap.get?_none_of_le (Nat.le_refl _)
     generalize s1.heap.objs.size = it at h2 dit ⊢
     have h2' := (Hp.new (N := [(it, siO ba ⟨⟨y :: l⟩⟩ tV 0)]) h1 h2 b2 (fun z hz => by rw [List.mem_singleton.mp hz]; exact dit)).swap (A := [(it, siO ba ⟨⟨y :: l⟩⟩ tV 0)])
     refine duD2 h2' fun B1 s3 p3 hB3 h3 b3 => ?_
     refine duC0 (Hp.sub (List.Sublist.cons _ (List.Sublist.refl _)) h3) fun s4 p4 h4 b4 => ?_
     refine du_loop (y :: l).length (i := 0) (vs := []) (by rfl) (Nat.zero_le _) (by omega) h4 fun s5 vs ca dc h5 b5 l5 e5 d5 => ?_
     obtain ⟨k, v, rfl⟩ := d5 (.inl (Nat.succ_pos _))
     have b45 : Beh [it, B1 + 2, B1 + 3] s3 s5 := Beh.trans b4 b5 (by simp)
     have h6 := (Hp.join2 (A := [(it, siO ba ⟨⟨y :: l⟩⟩ tV 0), (B1 + 2, listO [] 0), (B1 + 3, dcO (W3 w a b c) none)]) (C := [(B, duFr (W3 w a b c) s.toks ⟨⟨n⟩⟩ tN ⟨⟨y :: l⟩⟩ tV 0 tm rm)]) (Hp.swap (A := [(B, duFr (W3 w a b c) s.toks ⟨⟨n⟩⟩ tN ⟨⟨y :: l⟩⟩ tV 0 tm rm)]) h3) h5 b45 (fun z hz => .inl (by simpa using hz)) (fun z hz => .inl (by
       simp only [List.mem_cons, List.not_mem_nil, or_false] at hz
       rcases hz with rfl | rfl <;> simp))).swap (A := [(B1 + 2, listO vs ca), (B1 + 3, dcO (W3 w a b c) (some (k, v)))])
     refine duD3 h6 fun B2 s6 p6 hB6 h7 b7 => ?_
     have dB : s.heap.get? B = none := Heap.get?_none_of_le (Nat.le_of_eq hB1)
     have b12 : Beh [] s s2 := Beh.trans b1 b2 (by simp)
     have d1 : s.heap.get? it = none := dead_nil b1 _ dit
     have d2 : ∀ z, B1 + 2 ≤ z → s.heap.get? z = none := fun z hz => dead_nil b12 _ (Heap.get?_none_of_le (by rw [hB3]; exact hz))
     have b6 : Beh [] s s6 := Beh.drop (as := [B, it, B1 + 2, B1 + 3]) (Beh.trans (Beh.trans (Beh.trans (Beh.widen b12 (by simp)) b3 (by simp)) b45 (by simp)) b7 (by simp)) fun z hz => .inr (by
       simp only [List.mem_cons, List.not_mem_nil, or_false] at hz
       rcases hz with h | h | h | h
       · rw [h]; exact dB
       · rw [h]; exact d1
       · rw [h]; exact d2 _ (Nat.le_refl _)
       · rw [h]; exact d2 _ (Nat.le_succ _))
     have o1 := h7.own (B1 + 2, listO vs ca) (by simp)
     have o2 := h7.own (B2 + 3, listO [] 0) (by simp)
     have hsp : vs = [] ↔ ¬ (y :: l).any isTs = true := by
       rw [e5, List.drop_zero]
       simp [isTs]
     by_cases hv0 : vs = []
     · rw [if_neg (by rw [hsp] at hv0; simpa using hv0)] at hR
       subst hv0
       refine ne_same (ts := []) rfl o1 o2 trivial trivial ?_
       refine duD4 (Hp.sub (List.Sublist.cons_cons _ (List.nil_sublist _)) h7) fun B3 s7 p7 h8 b8 => ?_
       have b7 : Beh [] s s7 := Beh.drop (as := [B]) (Beh.trans (Beh.widen b6 (by simp)) b8 (by simp)) fun z hz => .inr (by rw [List.mem_singleton.mp hz]; exact dB)
       refine hB B s7 p7 _ h8.nil ?_
       cases br with
       | some ts =>
         intro s8 u vs2 c2 iv h9 b9 d9
         refine duD4r h9.nil (.inl ⟨u, rfl⟩) fun s9 b10 h10 => ?_
         exact hR s9 u vs2 c2 iv (Hp.keep h9 h10 b10) (Beh.trans (Beh.trans b7 b9 (by simp)) b10 (by simp)) (dead_nil b7 _ d9)
       | none =>
         intro s8 tk h9 b9
         refine duD4r h9 (.inr ⟨sNoC, tk, rfl⟩) fun s9 b10 h10 => ?_
         exact hR s9 tk h10 (Beh.trans (Beh.trans b7 b9 (by simp)) b10 (by simp))
     · rw [if_pos (.inr (Classical.byContradiction fun h => hv0 (hsp.mpr h)))] at hR
       refine ne_len rfl o1 o2 (by simpa using hv0) ?_
       refine duD5 (Hp.sub (List.Sublist.cons_cons _ (List.nil_sublist _)) h7) fun B3 s7 p7 h8 b8 => ?_
       refine add_call rfl (by rw [ln]; show n.length + 1 ≤ 1000; omega) fun s8 t8 e8 b8' => ?_
       refine duD6 (toks_beh e8 b8' h8) fun B4 s9 p9 h9 b9 => ?_
       refine add_call rfl (show (n ++ [61]).length + (y :: l).length ≤ 1000 by rw [List.length_append]; simp only [List.length_singleton]; omega) fun s10 t10 e10 b10 => ?_
       refine duD7 (toks_beh e10 b10 h9).nil fun s11 u h11 b11 d11 => ?_
       have b7 : Beh [] s s10 := Beh.drop (as := [B]) (Beh.trans (Beh.trans (Beh.trans (Beh.trans (Beh.widen b6 (by simp)) b8 (by simp)) b8' (by simp)) b9 (by simp)) b10 (by simp)) fun z hz => .inr (by rw [List.mem_singleton.mp hz]; exact dB)
       exact hR s11 u [.str _ _] _ ⟨⟨_, rfl⟩, trivial⟩ h11 (Beh.trans b7 b11 (by simp)) (dead_nil b7 _ d11)
end
end Mine
end
section
namespace Mine
open PySem PySem.W PySem.Calls
open Builtin.Str (occurrences tooLong)
noncomputable def cut (c : Nat) : List Nat → Option (List Nat × List Nat)
 | [] => none
 | y :: r => if y = c then some ([], r) else match cut c r with
   | some (a, b) => some (y :: a, b)
   | none => none
theorem cut_none {c : Nat} : ∀ {l : List Nat}, (∀ j : Nat, ¬ l[j]? = some c) → cut c l = none
 | [], _ => rfl
 | y :: r, h => by
   have h0 : ¬ y = c := fun e => h 0 (by simp [e])
   unfold cut
   rw [if_neg h0, cut_none fun j hj => h (j + 1) (by simpa using hj)]
theorem cut_some {c : Nat} : ∀ {l : List Nat} {i : Nat}, l[i]? = some c → (∀ k : Nat, k < i → ¬ l[k]? = some c) → cut c l = some (l.take i, l.drop (i + 1))
 | [], i, h, _ => by simp at h
 | y :: r, 0, h, _ => by
   have e : y = c := by simpa using h
   unfold cut
   rw [if_pos e]; rfl
 | y :: r, i + 1, h, hn => by
   have h0 : ¬ y = c := fun e => hn 0 (Nat.succ_pos _) (by simp [e])
   unfold cut
   rw [if_neg h0, cut_some (l := r) (i := i) (by simpa using h) fun k hk hj => hn (k + 1) (by omega) (by simpa using hj)]
   rfl
theorem cut_length {c : Nat} : ∀ {l a b : List Nat}, cut c l = some (a, b) → a.length + b.length + 1 = l.length
 | [], _, _, h => by cases h
 | y :: r, a, b, h => by
   unfold cut at h
   by_cases e : y = c
   · rw [if_pos e] at h
     cases h; simp
   · rw [if_neg e] at h
     cases hc : cut c r with
     | none => rw [hc] at h; cases h
     | some z =>
       obtain ⟨a', b'⟩ := z
       rw [hc] at h
       cases h
       have := cut_length hc
       simp only [List.length_cons]; omega
noncomputable def tup3 (u v x : Value) : Obj := ⟨.type "tuple", none, .seq #[u, v, x] 0, #[]⟩
noncomputable def PartK (w : World) (R : Result → Shared → Prop) (s : Shared) (l : List Nat) (t c u : Nat) : Option (List Nat × List Nat) → Prop
 | none => ∀ s' tu k, HpW w s'.heap [(tu, tup3 (.str ⟨⟨l⟩⟩ t) (.str ⟨#[]⟩ k) (.str ⟨#[]⟩ k))] → Beh [] s s' → s.heap.get? tu = none → R (.ok (.ret (.ref tu))) s'
 | some (x, y) => ∀ s' tu k j, HpW w s'.heap [(tu, tup3 (.str ⟨⟨x⟩⟩ k) (.str ⟨#[c]⟩ u) (.str ⟨⟨y⟩⟩ j))] → Beh [] s s' → s.heap.get? tu = none → R (.ok (.ret (.ref tu))) s'
theorem strSub_is (l : List Nat) (i j : Nat) : Builtin.Str.strSub (⟨⟨l⟩⟩ : Str) i j = ⟨⟨(l.drop i).take (j - i)⟩⟩ := by
 have := StrLaws.strSub_toList (⟨⟨l⟩⟩ : Str) i j
 rw [str_eta (Builtin.Str.strSub _ _ _), this]
theorem part_call {w : World} {Γ : Ctx} {p : Pos} {s : Shared} {R : Result → Shared → Prop} {l : List Nat} {t c u : Nat} (hΓ : Γ.code = .call (.builtin "str.partition") ⟨[.str ⟨⟨l⟩⟩ t, .str ⟨#[c]⟩ u], []⟩) (H : HpW w s.heap []) (hl : l.length ≤ 1000) (hR : PartK w R s l t c u (cut c l)) :
   wpCode (model prg w) Γ R p s := by
 have sz : 1000 ≤ sizeLine := by decide
 refine meets_at hΓ (c' := .builtin "str.partition" ⟨[.str ⟨⟨l⟩⟩ t, .str ⟨#[c]⟩ u], []⟩) (by kernel_rfl) (by kernel_rfl) (entry_is F.entry_str_partition) (meets_str_partition ⟨⟨l⟩⟩ ⟨#[c]⟩ t u rfl (Nat.le_trans (show l.length ≤ 1000 from hl) sz)) fun A => ?_
 have nd : ∀ k : Nat, ({ s with toks := k } : Shared).heap.get? s.heap.objs.size = none := fun k => Heap.get?_none_of_le (Nat.le_refl _)
 have lz : (⟨⟨l⟩⟩ : Str).length = l.length := rfl
 rcases StrLaws.occ_head (⟨⟨l⟩⟩ : Str) ⟨#[c]⟩ 1 (Nat.le_refl 1) with ⟨h0, hn⟩ | ⟨i, r, h0, hi, hn⟩
 · rw [h0]
   have hc : cut c l = none := cut_none fun j hj => hn j ((StrLaws.subAt_one (⟨⟨l⟩⟩ : Str) c j).mpr hj)
   rw [hc] at hR
   exact hR _ _ s.toks ((H.push (o := tup3 (.str ⟨⟨l⟩⟩ t) (.str ⟨#[]⟩ s.toks) (.str ⟨#[]⟩ s.toks)) rfl)) ⟨fun b o' e _ => Heap.get?_push_of_some _ e, rfl, rfl, rfl⟩ (Heap.get?_none_of_le (Nat.le_refl _))
 · rw [h0]
   have hm := (StrLaws.subAt_one (⟨⟨l⟩⟩ : Str) c i).mp hi
   have hc : cut c l = some (l.take i, l.drop (i + 1)) := cut_some hm fun k hk e => hn k hk ((StrLaws.subAt_one (⟨⟨l⟩⟩ : Str) c k).mpr e)
   rw [hc] at hR
   have e1 : Builtin.Str.strSub (⟨⟨l⟩⟩ : Str) 0 i = ⟨⟨l.take i⟩⟩ := by rw [strSub_is]; simp
   have e2 : Builtin.Str.strSub (⟨⟨l⟩⟩ : Str) (i + (⟨#[c]⟩ : Str).length) (⟨⟨l⟩⟩ : Str).length = ⟨⟨l.drop (i + 1)⟩⟩ := by
     rw [strSub_is, lz, show (⟨#[c]⟩ : Str).length = 1 from rfl, List.take_of_length_le (by simp)]
   show R _ { s with toks := s.toks + 1 + 1, heap := s.heap.push (tup3 (.str (Builtin.Str.strSub (⟨⟨l⟩⟩ : Str) 0 i) s.toks) (.str ⟨#[c]⟩ u) (.str (Builtin.Str.strSub (⟨⟨l⟩⟩ : Str) (i + (⟨#[c]⟩ : Str).length) (⟨⟨l⟩⟩ : Str).length) (s.toks + 1))) }
   rw [e1, e2]
   exact hR _ _ s.toks (s.toks + 1) (H.push (o := tup3 (.str ⟨⟨l.take i⟩⟩ s.toks) (.str ⟨#[c]⟩ u) (.str ⟨⟨l.drop (i + 1)⟩⟩ (s.toks + 1))) rfl) ⟨fun b o' e _ => Heap.get?_push_of_some _ e, rfl, rfl, rfl⟩ (Heap.get?_none_of_le (Nat.le_refl _))
theorem IsStrs.pairs : ∀ {vs : List Value} {ts : List (List Nat)}, IsStrs vs ts → ∃ l : List (Str × Nat), strValues l = vs ∧ l.map (·.1) = ts.map fun t => ⟨⟨t⟩⟩
 | [], [], _ => ⟨[], rfl, rfl⟩
 | v :: vs, t :: ts, h => by
   obtain ⟨⟨k, rfl⟩, h2⟩ := h
   obtain ⟨l, e1, e2⟩ := IsStrs.pairs h2
   exact ⟨(⟨⟨t⟩⟩, k) :: l, by show _ :: strValues l = _; rw [e1], by rw [List.map_cons, List.map_cons, e2]⟩
 | [], _ :: _, h => h.elim
 | _ :: _, [], h => h.elim
theorem join_flat : ∀ ts : List (List Nat), (Str.join (⟨#[]⟩ : Str) (ts.map fun t => ⟨⟨t⟩⟩)).cps.toList = ts.flatten
 | [] => rfl
 | [t] => by simp [Str.join]
 | t :: u :: r => by
   have ih := join_flat (u :: r)
   show ((⟨⟨t⟩⟩ : Str) ++ ⟨#[]⟩ ++ Str.join ⟨#[]⟩ ((u :: r).map fun t => ⟨⟨t⟩⟩)).cps.toList = _
   simp only [Str.cps_append, Array.toList_append]
   rw [ih]; simp
theorem join_call {w : World} {Γ : Ctx} {p : Pos} {s : Shared} {R : Result → Shared → Prop} {vs : List Value} {ts : List (List Nat)} {g t n : Nat} (hΓ : Γ.code = .call (.builtin "str.join") ⟨[.str ⟨#[]⟩ t, .ref g], []⟩) (hg : s.heap.get? g = some (listO vs n)) (hv : IsStrs vs ts) (hl : ts.flatten.length ≤ 1000)
   (hR : ∀ s' tk, s'.heap = s.heap → Beh [] s s' → R (.ok (.ret (.str ⟨⟨ts.flatten⟩⟩ tk))) s') : wpCode (model prg w) Γ R p s := by
 obtain ⟨l, e1, e2⟩ := hv.pairs
 have ej : Txt.join (⟨#[]⟩ : Str) (l.map (·.1)) = ⟨⟨ts.flatten⟩⟩ := by
   show Builtin.Str.glued _ _ = _
   rw [StrLaws.glued_eq_join, e2, str_eta (Str.join _ _), join_flat]
 have hok : tooLong ((l.map (·.1)).toArray.foldl (· + ·.length + (⟨#[]⟩ : Str).length) 0) = false := by
   rw [e2]
   unfold tooLong
   have hsum : ∀ (ts : List (List Nat)) (n : Nat), (ts.map fun t => (⟨⟨t⟩⟩ : Str)).foldl (· + ·.length + (⟨#[]⟩ : Str).length) n = n + ts.flatten.length := by
     intro ts
     induction ts with
     | nil => intro n; rfl
     | cons t ts ih =>
       intro n
       rw [List.map_cons, List.foldl_cons, ih]
       show n + t.length + 0 + _ = _
       simp; omega
   have sz : 1000 ≤ sizeLine := by decide
   rw [List.foldl_toArray, hsum]
   exact decide_eq_false (by omega)
 refine meets_at hΓ (c' := .builtin "str.join" ⟨[.str ⟨#[]⟩ t, .ref g], []⟩) (by kernel_rfl) (by kernel_rfl) (entry_is F.entry_str_join) (meets_str_join_list ⟨#[]⟩ t g l hok) fun A => ⟨⟨_, hg, rfl, n, by show Data.seq ⟨vs⟩ n = _; rw [e1]⟩, post_join l ⟨joinFit_length hok, fun t' k => ?_⟩⟩
 rw [ej]
 exact hR { s with toks := k } t' rfl ⟨fun _ _ h _ => h, rfl, rfl, rfl⟩
end Mine
end
section
namespace Mine
open PySem PySem.W
noncomputable def baDef : Dft := topDef 30
noncomputable def envBA (L : Nat) : Env := { scope := baDef.2.2, locals := L, globals := 3, cells := [], qual := ⟨#[95,108,97,119,95,98,97,114,101,46,60,108,111,99,97,108,115,62,46]⟩, func := some 777, code := .ref 776, frame := some L, builtins := 0 }
noncomputable def whileOf : Option Stmt → Expr × List Stmt × List Stmt
 | some (.While t b o _) => (t, b, o)
 | _ => (.Constant .none 0 ⟨0,0,0,0⟩, [], [])
noncomputable def baW : Expr × List Stmt × List Stmt := whileOf (nth baDef.2.1 2)
noncomputable def baComp : Expr := compIn (nth baDef.2.1 3)
noncomputable def bl (F : Nat) (x : S0) : List (Code × Pos) := (.func duDef.2.1 (envDU F), duRet) :: x.l
noncomputable abbrev cBA (N : Str) (tN : Nat) (V : Str) (tV : Nat) (rm : Bool) : Code := .call (.ref 777) ⟨[.str N tN, .str V tV, .bool rm], []⟩
noncomputable abbrev gBA (N : Str) (tN : Nat) (V : Str) (tV : Nat) (rm : Bool) (F : Nat) (x : S0) : Ctx := ⟨cBA N tN V tV rm, none, none, bl F x, none⟩
noncomputable def cBL (L : Nat) : Code := .whileLoop baW.1 baW.2.1 baW.2.2 (envBA L)
noncomputable def baPos : Pos := ⟨766,4,780,35⟩
noncomputable def bcPos : Pos := ⟨781,40,781,46⟩
noncomputable def gBL (L F : Nat) (x : S0) : Ctx := ⟨cBL L, none, none, (.func baDef.2.1 (envBA L), baPos) :: bl F x, none⟩
inductive HI where
 | a
 | b (k : Nat) (v : Value)
 | c (k : Nat) (v : Value) (k1 : Nat) (v1 : Value) (k2 : Nat) (v2 : Value)
noncomputable def HI.head : HI → Nat → Value → HI
 | .a, k, v => .b k v
 | .b k _, _, v => .b k v
 | .c k _ k1 v1 k2 v2, _, v => .c k v k1 v1 k2 v2
noncomputable def HI.cut : HI → Nat → Value → Nat → Value → HI
 | .a, k1, v1, k2, v2 => .a
 | .b k v, k1, v1, k2, v2 => .c k v k1 v1 k2 v2
 | .c k v k1 _ k2 _, _, v1, _, v2 => .c k v k1 v1 k2 v2
structure BaK where
 N : Str
 tN : Nat
 V : Str
 tV : Nat
 k0 : Nat
 k1 : Nat
 k2 : Nat
 k3 : Nat
 k4 : Nat
noncomputable def baF0 (w : World) (t : Nat) (N : Str) (tN : Nat) (V : Str) (tV : Nat) (rm : Bool) : Obj := ⟨.type "frame", none, .dict #[⟨hs w #[110,97,109,101], .str ⟨#[110,97,109,101]⟩ t, .str N tN⟩,⟨hs w #[118,97,108,117,101], .str ⟨#[118,97,108,117,101]⟩ (t + 1), .str V tV⟩,⟨hs w #[114,101,109,97,114,107], .str ⟨#[114,101,109,97,114,107]⟩ (t + 2), .bool rm⟩] 3, #[]⟩
noncomputable def baFr (w : World) (K : BaK) (rm : Bool) (G : Nat) (r : Value) : HI → Obj
 | .a => ⟨.type "frame", none, .dict #[⟨hs w #[110,97,109,101], .str ⟨#[110,97,109,101]⟩ K.k0,.str K.N K.tN⟩,⟨hs w #[118,97,108,117,101], .str ⟨#[118,97,108,117,101]⟩ K.k1,.str K.V K.tV⟩,⟨hs w #[114,101,109,97,114,107], .str ⟨#[114,101,109,97,114,107]⟩ K.k2,.bool rm⟩,⟨hs w #[103,114,111,117,112,115], .str ⟨#[103,114,111,117,112,115]⟩ K.k3,.ref G⟩,⟨hs w #[114,101,115,116], .str ⟨#[114,101,115,116]⟩ K.k4, r⟩] 5, #[]⟩
 | .b k v => ⟨.type "frame", none, .dict #[⟨hs w #[110,97,109,101], .str ⟨#[110,97,109,101]⟩ K.k0,.str K.N K.tN⟩,⟨hs w #[118,97,108,117,101], .str ⟨#[118,97,108,117,101]⟩ K.k1,.str K.V K.tV⟩,⟨hs w #[114,101,109,97,114,107], .str ⟨#[114,101,109,97,114,107]⟩ K.k2,.bool rm⟩,⟨hs w #[103,114,111,117,112,115], .str ⟨#[103,114,111,117,112,115]⟩ K.k3,.ref G⟩,⟨hs w #[114,101,115,116], .str ⟨#[114,101,115,116]⟩ K.k4, r⟩,⟨hs w #[104,101,97,100], .str ⟨#[104,101,97,100]⟩ k, v⟩] 6, #[]⟩
 | .c k v k1 v1 k2 v2 => ⟨.type "frame", none, .dict #[⟨hs w #[110,97,109,101], .str ⟨#[110,97,109,101]⟩ K.k0,.str K.N K.tN⟩,⟨hs w #[118,97,108,117,101], .str ⟨#[118,97,108,117,101]⟩ K.k1,.str K.V K.tV⟩,⟨hs w #[114,101,109,97,114,107], .str ⟨#[114,101,109,97,114,107]⟩ K.k2,.bool rm⟩,⟨hs w #[103,114,111,117,112,115], .str ⟨#[103,114,111,117,112,115]⟩ K.k3,.ref G⟩,⟨hs w #[114,101,115,116], .str ⟨#[114,101,115,116]⟩ K.k4, r⟩,⟨hs w #[104,101,97,100], .str ⟨#[104,101,97,100]⟩ k, v⟩,⟨hs w #[105,110,110,101,114], .str ⟨#[105,110,110,101,114]⟩ k1, v1⟩,⟨hs w #[109,97,114,107], .str ⟨#[109,97,114,107]⟩ k2, v2⟩] 8, #[]⟩
noncomputable def envBC (D B : Nat) : Env := { scope := compSc baComp, locals := D, globals := 3, cells := [], qual := ⟨#[95,108,97,119,95,98,97,114,101,46,60,108,111,99,97,108,115,62,46]⟩, func := none, code := .ref 776, frame := some B, builtins := 0 }
noncomputable def gcO (w : World) : Option (Nat × Value) → Obj
 | none => ⟨.type "dict", none, .dict #[] 0, #[]⟩
 | some (k, v) => ⟨.type "dict", none, .dict #[⟨hs w #[103,114,111,117,112], .str ⟨#[103,114,111,117,112]⟩ k, v⟩] 1, #[]⟩
noncomputable def cCS (it acc D L : Nat) : Code := .compStart baComp 0 (.ref it) (.ref acc) (envBC D L)
noncomputable def cCL (it acc D L : Nat) : Code := .compLoop baComp 0 (.ref it) (.ref acc) (envBC D L)
noncomputable def gCS (it acc D L F : Nat) (x : S0) : Ctx := ⟨cCS it acc D L, none, none, (.func baDef.2.1 (envBA L), bcPos) :: bl F x, none⟩
noncomputable def gCL (it acc D L F : Nat) (x : S0) : Ctx := ⟨cCL it acc D L, none, none, (.func baDef.2.1 (envBA L), bcPos) :: bl F x, none⟩
noncomputable def ixv (rs : List Value) (g : Nat) : Value := (rs ++ [PySem.Value.ref g]).getD (idx (-1) (rs ++ [PySem.Value.ref g]).length) .none
noncomputable def rB1 (w : World) (s : Shared) (B : Nat) (N : Str) (tN : Nat) (V : Str) (tV : Nat) (rm : Bool) (F : Nat) (x : S0) (p : Pos) : Option Out := rn w s B [] 27 (gBA N tN V tV rm F x) p [] (den (cBA N tN V tV rm)) 18018866366255104 []
noncomputable def rB2 (w : World) (s : Shared) (B : Nat) (N : Str) (tN : Nat) (V : Str) (tV : Nat) (rm : Bool) (F : Nat) (x : S0) (p : Pos) (s1 : Shared) (B1 : Nat) (N2 : Str) (t2 : Nat) : Option Out := rn w s1 B1 [(B, baF0 w s.toks N tN V tV rm)] 20 (cfΓ (rB1 w s B N tN V tV rm F x p)) (cfp (rB1 w s B N tN V tV rm F x p)) (cfκ (rB1 w s B N tN V tV rm F x p)) (ansT (rB1 w s B N tN V tV rm F x p) (.ok (.ret (.str N2 t2)))) 17043521 []
noncomputable def rB3 (w : World) (s : Shared) (B : Nat) (N : Str) (tN : Nat) (V : Str) (tV : Nat) (rm : Bool) (F : Nat) (x : S0) (p : Pos) (s1 : Shared) (B1 : Nat) (N2 : Str) (t2 : Nat) (s2 : Shared) (B2 : Nat) (K : BaK) (G : Nat) (r : Value) (hi : HI) (gs : List Value) (cG : Nat) : Option Out := rn w s2 B2 [(B, baFr w K rm G r hi), (G, listO gs cG)] 15 (cfΓ (rB2 w s B N tN V tV rm F x p s1 B1 N2 t2)) (cfp (rB2 w s B N tN V tV rm F x p s1 B1 N2 t2)) (cfκ (rB2 w s B N tN V tV rm F x p s1 B1 N2 t2)) (ansT (rB2 w s B N tN V tV rm F x p s1 B1 N2 t2) (.ok .next)) 3254788225 []
noncomputable def rBC (w : World) (s : Shared) (B L : Nat) (K : BaK) (G : Nat) (y : Nat) (l : List Nat) (tr : Nat) (hi : HI) (rs : List Value) (g cG : Nat) (vs : List Value) (c F : Nat) (x : S0) (p : Pos) : Option Out := rn w s B [(L, baFr w K true G (.str ⟨⟨y :: l⟩⟩ tr) hi), (G, listO (rs ++ [.ref g]) cG), (g, listO vs c)] 77 (gBL L F x) p [] (den (cBL L)) 1484752863298170610463728030947958553002381441 [(true, true), ((fits (⟨⟨y :: l⟩⟩ : Str).length && decide ((0 : Int) ≤ 0) && decide ((0 : Int) < (⟨⟨y :: l⟩⟩ : Str).length)), true), ((fits (⟨⟨y :: l⟩⟩ : Str).length && decide ((0 : Int) < 1) && decide ((1 : Int) ≤ (⟨⟨y :: l⟩⟩ : Str).length)), true), (([y] == [39]), false), (hasS ⟨#[9,13,10]⟩ ⟨#[y]⟩, false), (([y] == [35]), true), (fits (rs ++ [PySem.Value.ref g]).length, true)]
noncomputable def rBQ (w : World) (s : Shared) (B L : Nat) (K : BaK) (rm : Bool) (G : Nat) (y : Nat) (l : List Nat) (tr : Nat) (hi : HI) (rs : List Value) (g cG : Nat) (vs : List Value) (c F : Nat) (x : S0) (p : Pos) : Option Out := rn w s B [(L, baFr w K rm G (.str ⟨⟨y :: l⟩⟩ tr) hi), (G, listO (rs ++ [.ref g]) cG), (g, listO vs c)] 47 (gBL L F x) p [] (den (cBL L)) 307028780583024288338049 [(true, true), ((fits (⟨⟨y :: l⟩⟩ : Str).length && decide ((0 : Int) ≤ 0) && decide ((0 : Int) < (⟨⟨y :: l⟩⟩ : Str).length)), true), ((fits (⟨⟨y :: l⟩⟩ : Str).length && decide ((0 : Int) < 1) && decide ((1 : Int) ≤ (⟨⟨y :: l⟩⟩ : Str).length)), true), (([y] == [39]), true)]
noncomputable def rE1 (w : World) (s : Shared) (B it l i acc : Nat) (vs : List Value) (ca D : Nat) (dc : Option (Nat × Value)) (L F : Nat) (x : S0) (p : Pos) : Option Out := rn w s B [(it, itO l i), (acc, listO vs ca), (D, gcO w dc)] 2 (gCL it acc D L F x) p [] (den (cCL it acc D L)) 1 []
noncomputable def rE2 (w : World) (s : Shared) (B it l i acc : Nat) (vs : List Value) (ca D : Nat) (dc : Option (Nat × Value)) (L F : Nat) (x : S0) (p : Pos) (s1 : Shared) (B1 g : Nat) (us : List Value) (cu : Nat) : Option Out := rn w s1 B1 [(it, itO l (i + 1)), (acc, listO vs ca), (D, gcO w dc), (g, listO us cu)] 17 (cfΓ (rE1 w s B it l i acc vs ca D dc L F x p)) (cfp (rE1 w s B it l i acc vs ca D dc L F x p)) (cfκ (rE1 w s B it l i acc vs ca D dc L F x p)) (ansT (rE1 w s B it l i acc vs ca D dc L F x p) (.ok (.ret (.ref g)))) 4379914435 []
noncomputable def rE3 (w : World) (s : Shared) (B it l i acc : Nat) (vs : List Value) (ca D : Nat) (dc : Option (Nat × Value)) (L F : Nat) (x : S0) (p : Pos) (s1 : Shared) (B1 g : Nat) (us : List Value) (cu : Nat) (s2 : Shared) (B2 k : Nat) : Option Out := rn w s2 B2 [(it, itO l (i + 1)), (acc, listO vs ca), (D, gcO w (some (k, .ref g)))] 7 (cfΓ (rE2 w s B it l i acc vs ca D dc L F x p s1 B1 g us cu)) (cfp (rE2 w s B it l i acc vs ca D dc L F x p s1 B1 g us cu)) (cfκ (rE2 w s B it l i acc vs ca D dc L F x p s1 B1 g us cu)) (ansT (rE2 w s B it l i acc vs ca D dc L F x p s1 B1 g us cu) (.ok (.ret (.bool true)))) 3 []
section
variable {w : World} {a b c rm : Bool} {s s1 s2 s3 s4 s5 : Shared} {B B1 B2 B3 F G L it l i acc D cG g cc ca cu k k' e t tr y : Nat} {N V N2 v4 : Str} {tN tV t2 t4 : Nat} {K : BaK} {hi : HI} {rs gs vs us : List Value} {lst : List Nat} {v r : Value} {x : S0} {p : Pos} {R : Result → Shared → Prop} {dc : Option (Nat × Value)}
theorem ba1 (H : HpW (W3 w a b c) s.heap [])
   (K : ∀ B s' p', s.heap.objs.size = B → HpW (W3 w a b c) s'.heap [(B, baF0 (W3 w a b c) s.toks N tN V tV rm)] → Beh [] s s' → wpCode (model prg (W3 w a b c)) ⟨.call (.builtin "str.__add__") ⟨[.str N tN, .str ⟨#[61]⟩ (s.toks + 3)], []⟩, none, none, (.func baDef.2.1 (envBA B), ⟨764,15,764,25⟩) :: bl F x, none⟩ (fun r s'' => Mn (model prg (W3 w a b c)) R (cfΓ (rB1 (W3 w a b c) s B N tN V tV rm F x p)) (cfp (rB1 (W3 w a b c) s B N tN V tV rm F x p)) (cfκ (rB1 (W3 w a b c) s B N tN V tV rm F x p)) (ansT (rB1 (W3 w a b c) s B N tN V tV rm F x p) r) s'') p' s') :
   wpCode (model prg (W3 w a b c)) (gBA N tN V tV rm F x) R p s := by
 refine code_mn (c := cBA N tN V tV rm) rfl (sn_call H 27 18018866366255104 [] [0] (fun B => [baF0 (W3 w a b c) s.toks N tN V tV rm]) (fun B => ⟨.call (.builtin "str.__add__") ⟨[.str N tN, .str ⟨#[61]⟩ (s.toks + 3)], []⟩, none, none, (.func baDef.2.1 (envBA B), ⟨764,15,764,25⟩) :: bl F x, none⟩) true dsN rfl (by decide) ?_ ?_)
 · cases a <;> (intro B; kernel_rfl)
 · exact fun B s' p' hB h1 b1 => K B s' p' hB h1 b1
theorem ba2 (H : HpW (W3 w a b c) s1.heap [(B, baF0 (W3 w a b c) s.toks N tN V tV rm)])
   (K : ∀ B1 s' p', s1.heap.objs.size = B1 + 1 → HpW (W3 w a b c) s'.heap [(B, baFr (W3 w a b c) ⟨N, tN, V, tV, s.toks, s.toks + 1, s.toks + 2, s1.toks, s1.toks + 1⟩ rm (B1 + 2) (.str V tV) .a), (B1 + 1, listO [.str N2 t2] 0), (B1 + 2, listO [.ref (B1 + 1)] 0)] → Beh [B] s1 s' → wpCode (model prg (W3 w a b c)) (gBL B F x) (fun r s'' => Mn (model prg (W3 w a b c)) R (cfΓ (rB2 (W3 w a b c) s B N tN V tV rm F x p s1 B1 N2 t2)) (cfp (rB2 (W3 w a b c) s B N tN V tV rm F x p s1 B1 N2 t2)) (cfκ (rB2 (W3 w a b c) s B N tN V tV rm F x p s1 B1 N2 t2)) (ansT (rB2 (W3 w a b c) s B N tN V tV rm F x p s1 B1 N2 t2) r) s'') p' s') :
   Mn (model prg (W3 w a b c)) R (cfΓ (rB1 (W3 w a b c) s B N tN V tV rm F x p)) (cfp (rB1 (W3 w a b c) s B N tN V tV rm F x p)) (cfκ (rB1 (W3 w a b c) s B N tN V tV rm F x p)) (ansT (rB1 (W3 w a b c) s B N tN V tV rm F x p) (.ok (.ret (.str N2 t2)))) s1 := by
 refine sn_call H 20 17043521 [] [0,1,2] (fun B1 => [baFr (W3 w a b c) ⟨N, tN, V, tV, s.toks, s.toks + 1, s.toks + 2, s1.toks, s1.toks + 1⟩ rm (B1 + 2) (.str V tV) .a, listO [.str N2 t2] 0, listO [.ref (B1 + 1)] 0]) (fun B1 => gBL B F x) true dsN rfl (by decide) ?_ ?_
 · cases a <;> (intro B1; kernel_rfl)
 · exact fun B1 s' p' hB h1 b1 => K B1 s' p' hB h1 b1
theorem ba3 (H : HpW (W3 w a b c) s2.heap [(B, baFr (W3 w a b c) K rm G r hi), (G, listO gs cG)])
   (Q : ∀ B2 s' p', s2.heap.objs.size = B2 + 2 → HpW (W3 w a b c) s'.heap [(B, baFr (W3 w a b c) K rm G r hi), (G, listO gs cG), (B2 + 2, itO G 0), (B2 + 3, listO [] 0), (B2 + 4, gcO (W3 w a b c) none)] → Beh [B, G] s2 s' → wpCode (model prg (W3 w a b c)) (gCS (B2 + 2) (B2 + 3) (B2 + 4) B F x) (fun q s'' => Mn (model prg (W3 w a b c)) R (cfΓ (rB3 (W3 w a b c) s B N tN V tV rm F x p s1 B1 N2 t2 s2 B2 K G r hi gs cG)) (cfp (rB3 (W3 w a b c) s B N tN V tV rm F x p s1 B1 N2 t2 s2 B2 K G r hi gs cG)) (cfκ (rB3 (W3 w a b c) s B N tN V tV rm F x p s1 B1 N2 t2 s2 B2 K G r hi gs cG)) (ansT (rB3 (W3 w a b c) s B N tN V tV rm F x p s1 B1 N2 t2 s2 B2 K G r hi gs cG) q) s'') p' s') :
   Mn (model prg (W3 w a b c)) R (cfΓ (rB2 (W3 w a b c) s B N tN V tV rm F x p s1 B1 N2 t2)) (cfp (rB2 (W3 w a b c) s B N tN V tV rm F x p s1 B1 N2 t2)) (cfκ (rB2 (W3 w a b c) s B N tN V tV rm F x p s1 B1 N2 t2)) (ansT (rB2 (W3 w a b c) s B N tN V tV rm F x p s1 B1 N2 t2) (.ok .next)) s2 := by
 refine sn_call H 15 3254788225 [] [0,1,2,3,4] (fun B2 => [baFr (W3 w a b c) K rm G r hi, listO gs cG, itO G 0, listO [] 0, gcO (W3 w a b c) none]) (fun B2 => gCS (B2 + 2) (B2 + 3) (B2 + 4) B F x) true dsN ?_ (by decide) ?_ ?_
 · cases hi <;> rfl
 · cases hi <;> cases a <;> (intro B2; kernel_rfl)
 · exact fun B2 s' p' hB h1 b1 => Q B2 s' p' hB h1 b1
theorem ba4 (H : HpW (W3 w a b c) s3.heap [(B, baFr (W3 w a b c) K rm G r hi), (B2 + 3, listO vs cc), (B2 + 4, gcO (W3 w a b c) (some (k, v)))]) (hR : ∀ s', HpW (W3 w a b c) s'.heap [(B2 + 3, listO vs cc)] → Beh [B, B2 + 3, B2 + 4] s3 s' → R (.ok (.ret (.ref (B2 + 3)))) s') :
   Mn (model prg (W3 w a b c)) R (cfΓ (rB3 (W3 w a b c) s B N tN V tV rm F x p s1 B1 N2 t2 s2 B2 K G r hi gs cG)) (cfp (rB3 (W3 w a b c) s B N tN V tV rm F x p s1 B1 N2 t2 s2 B2 K G r hi gs cG)) (cfκ (rB3 (W3 w a b c) s B N tN V tV rm F x p s1 B1 N2 t2 s2 B2 K G r hi gs cG)) (ansT (rB3 (W3 w a b c) s B N tN V tV rm F x p s1 B1 N2 t2 s2 B2 K G r hi gs cG) (.ok .next)) s3 := by
 refine sn_ok H 5 12483 [] [1] (fun _ => [listO vs cc]) (fun _ => .ret (.ref (B2 + 3))) dsN ?_ (by decide) ?_ ?_
 · cases hi <;> rfl
 · cases hi <;> cases a <;> (intro B3; kernel_rfl)
 · exact fun B3 s' hB h1 b1 => hR s' h1 b1
theorem ba5 (H : HpW (W3 w a b c) s3.heap []) (hR : ∀ s', HpW (W3 w a b c) s'.heap [] → Beh [] s3 s' → R (.ok (.ret (.str v4 t4))) s') :
   Mn (model prg (W3 w a b c)) R (cfΓ (rB2 (W3 w a b c) s B N tN V tV rm F x p s1 B1 N2 t2)) (cfp (rB2 (W3 w a b c) s B N tN V tV rm F x p s1 B1 N2 t2)) (cfκ (rB2 (W3 w a b c) s B N tN V tV rm F x p s1 B1 N2 t2)) (ansT (rB2 (W3 w a b c) s B N tN V tV rm F x p s1 B1 N2 t2) (.ok (.ret (.str v4 t4)))) s3 := by
 refine sn_ok H 0 0 [] [] (fun _ => []) (fun _ => .ret (.str v4 t4)) dsN rfl (by decide) ?_ ?_
 · cases a <;> (intro B3; kernel_rfl)
 · exact fun B3 s' hB h1 b1 => hR s' h1 b1
theorem baE (H : HpW (W3 w a b c) s.heap [(L, baFr (W3 w a b c) K rm G (.str ⟨⟨[]⟩⟩ tr) hi)]) (hR : ∀ s', HpW (W3 w a b c) s'.heap [(L, baFr (W3 w a b c) K rm G (.str ⟨⟨[]⟩⟩ tr) hi)] → Beh [L] s s' → R (.ok .next) s') :
   wpCode (model prg (W3 w a b c)) (gBL L F x) R p s := by
 refine code_mn (c := cBL L) rfl (sn_ok H 6 129 [(false, false)] [0] (fun _ => [baFr (W3 w a b c) K rm G (.str ⟨⟨[]⟩⟩ tr) hi]) (fun _ => .next) (dsC rfl dsN) ?_ (by decide) ?_ ?_)
 · cases hi <;> rfl
 · cases hi <;> cases a <;> (intro B; kernel_rfl)
 · exact fun B s' hB h1 b1 => hR s' h1 b1
theorem baX (h1 : (fits (⟨⟨y :: lst⟩⟩ : Str).length && decide ((0 : Int) ≤ 0) && decide ((0 : Int) < (⟨⟨y :: lst⟩⟩ : Str).length)) = true) (h2 : (fits (⟨⟨y :: lst⟩⟩ : Str).length && decide ((0 : Int) < 1) && decide ((1 : Int) ≤ (⟨⟨y :: lst⟩⟩ : Str).length)) = true) (hq : ([y] == [39]) = false) (hw : hasS ⟨#[9,13,10]⟩ ⟨#[y]⟩ = false) (hh : ([y] == [35]) = false) (hx : idxOk (-1) (rs ++ [PySem.Value.ref g]).length = true) (hv : fits vs.length = true) (H : HpW (W3 w a b c) s.heap [(L, baFr (W3 w a b c) K rm G (.str (⟨⟨y :: lst⟩⟩ : Str) tr) hi), (G, listO (rs ++ [.ref g]) cG), (g, listO vs cc)])
   (Q : ∀ B s' p', s.heap.objs.size = B + 3 → HpW (W3 w a b c) s'.heap [(L, baFr (W3 w a b c) K rm G (.str (slc (⟨⟨y :: lst⟩⟩ : Str) 1 (⟨⟨y :: lst⟩⟩ : Str).length) (s.toks + 5)) (hi.head (s.toks + 3) (.str ⟨#[y]⟩ (s.toks + 2)))), (G, listO (rs ++ [.ref g]) cG), (g, listO (vs ++ [.str ⟨#[y]⟩ (s.toks + 2)]) (cc + 1))] → Beh [L, G, g] s s' → wpCode (model prg (W3 w a b c)) (gBL L F x) R p' s') :
   wpCode (model prg (W3 w a b c)) (gBL L F x) R p s := by
 refine code_mn (c := cBL L) rfl (sv_again (vs := [(ixv rs g, .ref g)]) H 78 5483852567980669529361032710440878965024475054016565377 [(true, true), ((fits (⟨⟨y :: lst⟩⟩ : Str).length && decide ((0 : Int) ≤ 0) && decide ((0 : Int) < (⟨⟨y :: lst⟩⟩ : Str).length)), true), ((fits (⟨⟨y :: lst⟩⟩ : Str).length && decide ((0 : Int) < 1) && decide ((1 : Int) ≤ (⟨⟨y :: lst⟩⟩ : Str).length)), true), (([y] == [39]), false), (hasS ⟨#[9,13,10]⟩ ⟨#[y]⟩, false), (([y] == [35]), false), (idxOk (-1) (rs ++ [PySem.Value.ref g]).length, true), (fits vs.length, true)] [0,1,2] (fun B => [baFr (W3 w a b c) K rm G (.str (slc (⟨⟨y :: lst⟩⟩ : Str) 1 (⟨⟨y :: lst⟩⟩ : Str).length) (s.toks + 5)) (hi.head (s.toks + 3) (.str ⟨#[y]⟩ (s.toks + 2))), listO (rs ++ [.ref g]) cG, listO (vs ++ [.str ⟨#[y]⟩ (s.toks + 2)]) (cc + 1)]) (fun B => gBL L F x) (dsC rfl (dsC h1 (dsC h2 (dsC hq (dsC hw (dsC hh (dsC hx (dsC hv (dsN))))))))) ?_ (by decide) ?_ ?_ ?_)
 · cases hi <;> rfl
 · cases hi <;> cases a <;> (intro B; kernel_rfl)
 · exact fun B s' p' hB h1 b1 => Q B s' p' hB h1 b1
 · intro v hv; rw [List.mem_singleton.mp hv]; exact getD_last rs (PySem.Value.ref g)
theorem baXh (h1 : (fits (⟨⟨y :: lst⟩⟩ : Str).length && decide ((0 : Int) ≤ 0) && decide ((0 : Int) < (⟨⟨y :: lst⟩⟩ : Str).length)) = true) (h2 : (fits (⟨⟨y :: lst⟩⟩ : Str).length && decide ((0 : Int) < 1) && decide ((1 : Int) ≤ (⟨⟨y :: lst⟩⟩ : Str).length)) = true) (hq : ([y] == [39]) = false) (hw : hasS ⟨#[9,13,10]⟩ ⟨#[y]⟩ = false) (hh : ([y] == [35]) = true) (hx : idxOk (-1) (rs ++ [PySem.Value.ref g]).length = true) (hv : fits vs.length = true) (H : HpW (W3 w a b c) s.heap [(L, baFr (W3 w a b c) K false G (.str (⟨⟨y :: lst⟩⟩ : Str) tr) hi), (G, listO (rs ++ [.ref g]) cG), (g, listO vs cc)])
   (Q : ∀ B s' p', s.heap.objs.size = B + 3 → HpW (W3 w a b c) s'.heap [(L, baFr (W3 w a b c) K false G (.str (slc (⟨⟨y :: lst⟩⟩ : Str) 1 (⟨⟨y :: lst⟩⟩ : Str).length) (s.toks + 5)) (hi.head (s.toks + 3) (.str ⟨#[y]⟩ (s.toks + 2)))), (G, listO (rs ++ [.ref g]) cG), (g, listO (vs ++ [.str ⟨#[y]⟩ (s.toks + 2)]) (cc + 1))] → Beh [L, G, g] s s' → wpCode (model prg (W3 w a b c)) (gBL L F x) R p' s') :
   wpCode (model prg (W3 w a b c)) (gBL L F x) R p s := by
 refine code_mn (c := cBL L) rfl (sv_again (vs := [(ixv rs g, .ref g)]) H 81 350966564350762849879106093465779059309160414577482535041 [(true, true), ((fits (⟨⟨y :: lst⟩⟩ : Str).length && decide ((0 : Int) ≤ 0) && decide ((0 : Int) < (⟨⟨y :: lst⟩⟩ : Str).length)), true), ((fits (⟨⟨y :: lst⟩⟩ : Str).length && decide ((0 : Int) < 1) && decide ((1 : Int) ≤ (⟨⟨y :: lst⟩⟩ : Str).length)), true), (([y] == [39]), false), (hasS ⟨#[9,13,10]⟩ ⟨#[y]⟩, false), (([y] == [35]), true), (idxOk (-1) (rs ++ [PySem.Value.ref g]).length, true), (fits vs.length, true)] [0,1,2] (fun B => [baFr (W3 w a b c) K false G (.str (slc (⟨⟨y :: lst⟩⟩ : Str) 1 (⟨⟨y :: lst⟩⟩ : Str).length) (s.toks + 5)) (hi.head (s.toks + 3) (.str ⟨#[y]⟩ (s.toks + 2))), listO (rs ++ [.ref g]) cG, listO (vs ++ [.str ⟨#[y]⟩ (s.toks + 2)]) (cc + 1)]) (fun B => gBL L F x) (dsC rfl (dsC h1 (dsC h2 (dsC hq (dsC hw (dsC hh (dsC hx (dsC hv (dsN))))))))) ?_ (by decide) ?_ ?_ ?_)
 · cases hi <;> rfl
 · cases hi <;> cases a <;> (intro B; kernel_rfl)
 · exact fun B s' p' hB h1 b1 => Q B s' p' hB h1 b1
 · intro v hv; rw [List.mem_singleton.mp hv]; exact getD_last rs (PySem.Value.ref g)
theorem baW1 (h1 : (fits (⟨⟨y :: lst⟩⟩ : Str).length && decide ((0 : Int) ≤ 0) && decide ((0 : Int) < (⟨⟨y :: lst⟩⟩ : Str).length)) = true) (h2 : (fits (⟨⟨y :: lst⟩⟩ : Str).length && decide ((0 : Int) < 1) && decide ((1 : Int) ≤ (⟨⟨y :: lst⟩⟩ : Str).length)) = true) (hq : ([y] == [39]) = false) (hw : hasS ⟨#[9,13,10]⟩ ⟨#[y]⟩ = true) (hr : fits (rs ++ [PySem.Value.ref g]).length = true) (H : HpW (W3 w a b c) s.heap [(L, baFr (W3 w a b c) K rm G (.str (⟨⟨y :: lst⟩⟩ : Str) tr) hi), (G, listO (rs ++ [.ref g]) cG), (g, listO vs cc)])
   (Q : ∀ B s' p', s.heap.objs.size = B + 3 → HpW (W3 w a b c) s'.heap [(L, baFr (W3 w a b c) K rm G (.str (slc (⟨⟨y :: lst⟩⟩ : Str) 1 (⟨⟨y :: lst⟩⟩ : Str).length) (s.toks + 5)) (hi.head (s.toks + 3) (.str ⟨#[y]⟩ (s.toks + 2)))), (G, listO (rs ++ [.ref g] ++ [.ref (B + 4)]) (cG + 1)), (g, listO vs cc), (B + 4, listO [] 0)] → Beh [L, G, g] s s' → wpCode (model prg (W3 w a b c)) (gBL L F x) R p' s') :
   wpCode (model prg (W3 w a b c)) (gBL L F x) R p s := by
 refine code_mn (c := cBL L) rfl (sv_again (vs := []) H 60 219364817017444116865381327889218670721 [(true, true), ((fits (⟨⟨y :: lst⟩⟩ : Str).length && decide ((0 : Int) ≤ 0) && decide ((0 : Int) < (⟨⟨y :: lst⟩⟩ : Str).length)), true), ((fits (⟨⟨y :: lst⟩⟩ : Str).length && decide ((0 : Int) < 1) && decide ((1 : Int) ≤ (⟨⟨y :: lst⟩⟩ : Str).length)), true), (([y] == [39]), false), (hasS ⟨#[9,13,10]⟩ ⟨#[y]⟩, true), (fits (rs ++ [PySem.Value.ref g]).length, true)] [0,1,2,4] (fun B => [baFr (W3 w a b c) K rm G (.str (slc (⟨⟨y :: lst⟩⟩ : Str) 1 (⟨⟨y :: lst⟩⟩ : Str).length) (s.toks + 5)) (hi.head (s.toks + 3) (.str ⟨#[y]⟩ (s.toks + 2))), listO (rs ++ [.ref g] ++ [.ref (B + 4)]) (cG + 1), listO vs cc, listO [] 0]) (fun B => gBL L F x) (dsC rfl (dsC h1 (dsC h2 (dsC hq (dsC hw (dsC hr (dsN))))))) ?_ (by decide) ?_ ?_ ?_)
 · cases hi <;> rfl
 · cases hi <;> cases a <;> (intro B; kernel_rfl)
 · exact fun B s' p' hB h1 b1 => Q B s' p' hB h1 b1
 · exact fun _ h => nomatch h
theorem baC (h1 : (fits (⟨⟨y :: lst⟩⟩ : Str).length && decide ((0 : Int) ≤ 0) && decide ((0 : Int) < (⟨⟨y :: lst⟩⟩ : Str).length)) = true) (h2 : (fits (⟨⟨y :: lst⟩⟩ : Str).length && decide ((0 : Int) < 1) && decide ((1 : Int) ≤ (⟨⟨y :: lst⟩⟩ : Str).length)) = true) (hq : ([y] == [39]) = false) (hw : hasS ⟨#[9,13,10]⟩ ⟨#[y]⟩ = false) (hh : ([y] == [35]) = true) (hr : fits (rs ++ [PySem.Value.ref g]).length = true) (H : HpW (W3 w a b c) s.heap [(L, baFr (W3 w a b c) K true G (.str (⟨⟨y :: lst⟩⟩ : Str) tr) hi), (G, listO (rs ++ [.ref g]) cG), (g, listO vs cc)])
   (Q : ∀ B s' p', s.heap.objs.size = B + 3 → HpW (W3 w a b c) s'.heap [(L, baFr (W3 w a b c) K true G (.str (slc (⟨⟨y :: lst⟩⟩ : Str) 1 (⟨⟨y :: lst⟩⟩ : Str).length) (s.toks + 5)) (hi.head (s.toks + 3) (.str ⟨#[y]⟩ (s.toks + 2)))), (G, listO (rs ++ [.ref g] ++ [.ref (B + 4)]) (cG + 1)), (g, listO vs cc), (B + 4, listO [] 0)] → Beh [L, G, g] s s' → wpCode (model prg (W3 w a b c)) ⟨.call (.builtin "str.partition") ⟨[(.str (slc (⟨⟨y :: lst⟩⟩ : Str) 1 (⟨⟨y :: lst⟩⟩ : Str).length) (s.toks + 5)), .str ⟨#[10]⟩ (s.toks + 10)], []⟩, none, none, (cBL L, ⟨778,19,778,39⟩) :: (.func baDef.2.1 (envBA L), baPos) :: bl F x, none⟩ (fun q s'' => Mn (model prg (W3 w a b c)) R (cfΓ (rBC (W3 w a b c) s B L K G y lst tr hi rs g cG vs cc F x p)) (cfp (rBC (W3 w a b c) s B L K G y lst tr hi rs g cG vs cc F x p)) (cfκ (rBC (W3 w a b c) s B L K G y lst tr hi rs g cG vs cc F x p)) (ansT (rBC (W3 w a b c) s B L K G y lst tr hi rs g cG vs cc F x p) q) s'') p' s') :
   wpCode (model prg (W3 w a b c)) (gBL L F x) R p s := by
 refine code_mn (c := cBL L) rfl (sn_call H 77 1484752863298170610463728030947958553002381441 [(true, true), ((fits (⟨⟨y :: lst⟩⟩ : Str).length && decide ((0 : Int) ≤ 0) && decide ((0 : Int) < (⟨⟨y :: lst⟩⟩ : Str).length)), true), ((fits (⟨⟨y :: lst⟩⟩ : Str).length && decide ((0 : Int) < 1) && decide ((1 : Int) ≤ (⟨⟨y :: lst⟩⟩ : Str).length)), true), (([y] == [39]), false), (hasS ⟨#[9,13,10]⟩ ⟨#[y]⟩, false), (([y] == [35]), true), (fits (rs ++ [PySem.Value.ref g]).length, true)] [0,1,2,4] (fun B => [baFr (W3 w a b c) K true G (.str (slc (⟨⟨y :: lst⟩⟩ : Str) 1 (⟨⟨y :: lst⟩⟩ : Str).length) (s.toks + 5)) (hi.head (s.toks + 3) (.str ⟨#[y]⟩ (s.toks + 2))), listO (rs ++ [.ref g] ++ [.ref (B + 4)]) (cG + 1), listO vs cc, listO [] 0]) (fun B => ⟨.call (.builtin "str.partition") ⟨[(.str (slc (⟨⟨y :: lst⟩⟩ : Str) 1 (⟨⟨y :: lst⟩⟩ : Str).length) (s.toks + 5)), .str ⟨#[10]⟩ (s.toks + 10)], []⟩, none, none, (cBL L, ⟨778,19,778,39⟩) :: (.func baDef.2.1 (envBA L), baPos) :: bl F x, none⟩) true (dsC rfl (dsC h1 (dsC h2 (dsC hq (dsC hw (dsC hh (dsC hr (dsN)))))))) ?_ (by decide) ?_ ?_)
 · cases hi <;> rfl
 · cases hi <;> cases a <;> (intro B; kernel_rfl)
 · exact fun B s' p' hB h1 b1 => Q B s' p' hB h1 b1
theorem baQ (h1 : (fits (⟨⟨y :: lst⟩⟩ : Str).length && decide ((0 : Int) ≤ 0) && decide ((0 : Int) < (⟨⟨y :: lst⟩⟩ : Str).length)) = true) (h2 : (fits (⟨⟨y :: lst⟩⟩ : Str).length && decide ((0 : Int) < 1) && decide ((1 : Int) ≤ (⟨⟨y :: lst⟩⟩ : Str).length)) = true) (hq : ([y] == [39]) = true) (H : HpW (W3 w a b c) s.heap [(L, baFr (W3 w a b c) K rm G (.str (⟨⟨y :: lst⟩⟩ : Str) tr) hi), (G, listO (rs ++ [.ref g]) cG), (g, listO vs cc)])
   (Q : ∀ B s' p', s.heap.objs.size = B + 3 → HpW (W3 w a b c) s'.heap [(L, baFr (W3 w a b c) K rm G (.str (slc (⟨⟨y :: lst⟩⟩ : Str) 1 (⟨⟨y :: lst⟩⟩ : Str).length) (s.toks + 5)) (hi.head (s.toks + 3) (.str ⟨#[y]⟩ (s.toks + 2)))), (G, listO (rs ++ [.ref g]) cG), (g, listO vs cc)] → Beh [L, G, g] s s' → wpCode (model prg (W3 w a b c)) ⟨.call (.builtin "str.partition") ⟨[(.str (slc (⟨⟨y :: lst⟩⟩ : Str) 1 (⟨⟨y :: lst⟩⟩ : Str).length) (s.toks + 5)), .str ⟨#[39]⟩ (s.toks + 8)], []⟩, none, none, (cBL L, ⟨770,32,770,51⟩) :: (.func baDef.2.1 (envBA L), baPos) :: bl F x, none⟩ (fun q s'' => Mn (model prg (W3 w a b c)) R (cfΓ (rBQ (W3 w a b c) s B L K rm G y lst tr hi rs g cG vs cc F x p)) (cfp (rBQ (W3 w a b c) s B L K rm G y lst tr hi rs g cG vs cc F x p)) (cfκ (rBQ (W3 w a b c) s B L K rm G y lst tr hi rs g cG vs cc F x p)) (ansT (rBQ (W3 w a b c) s B L K rm G y lst tr hi rs g cG vs cc F x p) q) s'') p' s') :
   wpCode (model prg (W3 w a b c)) (gBL L F x) R p s := by
 refine code_mn (c := cBL L) rfl (sn_call H 47 307028780583024288338049 [(true, true), ((fits (⟨⟨y :: lst⟩⟩ : Str).length && decide ((0 : Int) ≤ 0) && decide ((0 : Int) < (⟨⟨y :: lst⟩⟩ : Str).length)), true), ((fits (⟨⟨y :: lst⟩⟩ : Str).length && decide ((0 : Int) < 1) && decide ((1 : Int) ≤ (⟨⟨y :: lst⟩⟩ : Str).length)), true), (([y] == [39]), true)] [0,1,2] (fun B => [baFr (W3 w a b c) K rm G (.str (slc (⟨⟨y :: lst⟩⟩ : Str) 1 (⟨⟨y :: lst⟩⟩ : Str).length) (s.toks + 5)) (hi.head (s.toks + 3) (.str ⟨#[y]⟩ (s.toks + 2))), listO (rs ++ [.ref g]) cG, listO vs cc]) (fun B => ⟨.call (.builtin "str.partition") ⟨[(.str (slc (⟨⟨y :: lst⟩⟩ : Str) 1 (⟨⟨y :: lst⟩⟩ : Str).length) (s.toks + 5)), .str ⟨#[39]⟩ (s.toks + 8)], []⟩, none, none, (cBL L, ⟨770,32,770,51⟩) :: (.func baDef.2.1 (envBA L), baPos) :: bl F x, none⟩) true (dsC rfl (dsC h1 (dsC h2 (dsC hq (dsN))))) ?_ (by decide) ?_ ?_)
 · cases hi <;> rfl
 · cases hi <;> cases a <;> (intro B; kernel_rfl)
 · exact fun B s' p' hB h1 b1 => Q B s' p' hB h1 b1
theorem baC2 {g2 cG2 tu t1 t2' t3 : Nat} {la lb lc : List Nat} {r2 : Value} {hi2 : HI} (H : HpW (W3 w a b c) s1.heap [(L, baFr (W3 w a b c) K true G r2 hi2), (G, listO gs cG2), (g2, listO us cu), (tu, tup3 (.str ⟨⟨la⟩⟩ t1) (.str ⟨⟨lb⟩⟩ t2') (.str ⟨⟨lc⟩⟩ t3))])
   (Q : ∀ s' p', HpW (W3 w a b c) s'.heap [(L, baFr (W3 w a b c) K true G (.str ⟨⟨lc⟩⟩ t3) hi2), (G, listO gs cG2), (g2, listO us cu)] → Beh [L, G, g2, tu] s1 s' → wpCode (model prg (W3 w a b c)) (gBL L F x) R p' s') :
   Mn (model prg (W3 w a b c)) R (cfΓ (rBC (W3 w a b c) s B L K G y lst tr hi rs g cG vs cc F x p)) (cfp (rBC (W3 w a b c) s B L K G y lst tr hi rs g cG vs cc F x p)) (cfκ (rBC (W3 w a b c) s B L K G y lst tr hi rs g cG vs cc F x p)) (ansT (rBC (W3 w a b c) s B L K G y lst tr hi rs g cG vs cc F x p) (.ok (.ret (.ref tu)))) s1 := by
 refine sn_again H 20 285877385314564 [] [0,1,2] (fun _ => [baFr (W3 w a b c) K true G (.str ⟨⟨lc⟩⟩ t3) hi2, listO gs cG2, listO us cu]) (fun _ => gBL L F x) dsN ?_ (by decide) ?_ ?_
 · cases hi2 <;> rfl
 · cases hi <;> cases hi2 <;> cases a <;> (intro B2; kernel_rfl)
 · exact fun B2 s' p' hB h1 b1 => Q s' p' h1 b1
theorem baQ2b {kh : Nat} {vh : Value} {tu t1 t2' t3 : Nat} {la lb lc : List Nat} {r2 : Value} (hm : (lb == []) = false) (hx : idxOk (-1) (rs ++ [PySem.Value.ref g]).length = true) (hv : fits vs.length = true) (H : HpW (W3 w a b c) s1.heap [(L, baFr (W3 w a b c) K rm G r2 (.b kh vh)), (G, listO (rs ++ [.ref g]) cG), (g, listO vs cc), (tu, tup3 (.str ⟨⟨la⟩⟩ t1) (.str ⟨⟨lb⟩⟩ t2') (.str ⟨⟨lc⟩⟩ t3))])
   (Q : ∀ s' p', HpW (W3 w a b c) s'.heap [(L, baFr (W3 w a b c) K rm G (.str ⟨⟨lc⟩⟩ t3) (HI.cut (.b kh vh) s1.toks (.str ⟨⟨la⟩⟩ t1) (s1.toks + 1) (.str ⟨⟨lb⟩⟩ t2'))), (G, listO (rs ++ [.ref g]) cG), (g, listO (vs ++ [.str ⟨⟨la⟩⟩ t1]) (cc + 1))] → Beh [L, G, g, tu] s1 s' → wpCode (model prg (W3 w a b c)) (gBL L F x) R p' s') :
   Mn (model prg (W3 w a b c)) R (cfΓ (rBQ (W3 w a b c) s B L K rm G y lst tr hi rs g cG vs cc F x p)) (cfp (rBQ (W3 w a b c) s B L K rm G y lst tr hi rs g cG vs cc F x p)) (cfκ (rBQ (W3 w a b c) s B L K rm G y lst tr hi rs g cG vs cc F x p)) (ansT (rBQ (W3 w a b c) s B L K rm G y lst tr hi rs g cG vs cc F x p) (.ok (.ret (.ref tu)))) s1 := by
 refine sv_again (vs := [(ixv rs g, .ref g)]) H 110 8403979607196329699453953248405756703130416849028472547834009813809245260552175355204244869886404963105521924 [((lb == []), false), (idxOk (-1) (rs ++ [PySem.Value.ref g]).length, true), (fits vs.length, true)] [0,1,2] (fun _ => [baFr (W3 w a b c) K rm G (.str ⟨⟨lc⟩⟩ t3) (HI.cut (.b kh vh) s1.toks (.str ⟨⟨la⟩⟩ t1) (s1.toks + 1) (.str ⟨⟨lb⟩⟩ t2')), listO (rs ++ [.ref g]) cG, listO (vs ++ [.str ⟨⟨la⟩⟩ t1]) (cc + 1)]) (fun _ => gBL L F x) (dsC hm (dsC hx (dsC hv dsN))) rfl (by decide) ?_ ?_ ?_
 · cases hi <;> cases a <;> (intro B2; kernel_rfl)
 · exact fun B2 s' p' hB h1 b1 => Q s' p' h1 b1
 · intro v hv; rw [List.mem_singleton.mp hv]; exact getD_last rs (PySem.Value.ref g)
theorem baF2b {kh : Nat} {vh : Value} {tu t1 t2' t3 : Nat} {la lb lc : List Nat} {r2 : Value} (hm : (lb == []) = true) (H : HpW (W3 w a b c) s1.heap [(L, baFr (W3 w a b c) K rm G r2 (.b kh vh)), (G, listO (rs ++ [.ref g]) cG), (g, listO vs cc), (tu, tup3 (.str ⟨⟨la⟩⟩ t1) (.str ⟨⟨lb⟩⟩ t2') (.str ⟨⟨lc⟩⟩ t3))])
   (hR : ∀ s' tk, HpW (W3 w a b c) s'.heap [(L, baFr (W3 w a b c) K rm G (.str ⟨⟨lc⟩⟩ t3) (HI.cut (.b kh vh) s1.toks (.str ⟨⟨la⟩⟩ t1) (s1.toks + 1) (.str ⟨⟨lb⟩⟩ t2')))] → Beh [L, G, g, tu] s1 s' → R (.ok (.ret (.str sNoC tk))) s') :
   Mn (model prg (W3 w a b c)) R (cfΓ (rBQ (W3 w a b c) s B L K rm G y lst tr hi rs g cG vs cc F x p)) (cfp (rBQ (W3 w a b c) s B L K rm G y lst tr hi rs g cG vs cc F x p)) (cfκ (rBQ (W3 w a b c) s B L K rm G y lst tr hi rs g cG vs cc F x p)) (ansT (rBQ (W3 w a b c) s B L K rm G y lst tr hi rs g cG vs cc F x p) (.ok (.ret (.ref tu)))) s1 := by
 refine sn_ok H 87 123344056649255254964574768793621494897702133465344894311621590816561363545971769604 [((lb == []), true)] [0] (fun _ => [baFr (W3 w a b c) K rm G (.str ⟨⟨lc⟩⟩ t3) (HI.cut (.b kh vh) s1.toks (.str ⟨⟨la⟩⟩ t1) (s1.toks + 1) (.str ⟨⟨lb⟩⟩ t2'))]) (fun _ => .ret (.str sNoC (s1.toks + 4))) (dsC hm dsN) rfl (by decide) ?_ ?_
 · cases hi <;> cases a <;> (intro B2; kernel_rfl)
 · exact fun B2 s' hB h1 b1 => hR s' _ h1 b1
theorem baQ2c {kh : Nat} {vh : Value} {k1 k2 : Nat} {v1 v2 : Value} {tu t1 t2' t3 : Nat} {la lb lc : List Nat} {r2 : Value} (hm : (lb == []) = false) (hx : idxOk (-1) (rs ++ [PySem.Value.ref g]).length = true) (hv : fits vs.length = true) (H : HpW (W3 w a b c) s1.heap [(L, baFr (W3 w a b c) K rm G r2 (.c kh vh k1 v1 k2 v2)), (G, listO (rs ++ [.ref g]) cG), (g, listO vs cc), (tu, tup3 (.str ⟨⟨la⟩⟩ t1) (.str ⟨⟨lb⟩⟩ t2') (.str ⟨⟨lc⟩⟩ t3))])
   (Q : ∀ s' p', HpW (W3 w a b c) s'.heap [(L, baFr (W3 w a b c) K rm G (.str ⟨⟨lc⟩⟩ t3) (HI.cut (.c kh vh k1 v1 k2 v2) s1.toks (.str ⟨⟨la⟩⟩ t1) (s1.toks + 1) (.str ⟨⟨lb⟩⟩ t2'))), (G, listO (rs ++ [.ref g]) cG), (g, listO (vs ++ [.str ⟨⟨la⟩⟩ t1]) (cc + 1))] → Beh [L, G, g, tu] s1 s' → wpCode (model prg (W3 w a b c)) (gBL L F x) R p' s') :
   Mn (model prg (W3 w a b c)) R (cfΓ (rBQ (W3 w a b c) s B L K rm G y lst tr hi rs g cG vs cc F x p)) (cfp (rBQ (W3 w a b c) s B L K rm G y lst tr hi rs g cG vs cc F x p)) (cfκ (rBQ (W3 w a b c) s B L K rm G y lst tr hi rs g cG vs cc F x p)) (ansT (rBQ (W3 w a b c) s B L K rm G y lst tr hi rs g cG vs cc F x p) (.ok (.ret (.ref tu)))) s1 := by
 refine sv_again (vs := [(ixv rs g, .ref g)]) H 110 8403979607196329699453953248405756703130416849028472547834009813809245260552175355204244869886404963105521924 [((lb == []), false), (idxOk (-1) (rs ++ [PySem.Value.ref g]).length, true), (fits vs.length, true)] [0,1,2] (fun _ => [baFr (W3 w a b c) K rm G (.str ⟨⟨lc⟩⟩ t3) (HI.cut (.c kh vh k1 v1 k2 v2) s1.toks (.str ⟨⟨la⟩⟩ t1) (s1.toks + 1) (.str ⟨⟨lb⟩⟩ t2')), listO (rs ++ [.ref g]) cG, listO (vs ++ [.str ⟨⟨la⟩⟩ t1]) (cc + 1)]) (fun _ => gBL L F x) (dsC hm (dsC hx (dsC hv dsN))) rfl (by decide) ?_ ?_ ?_
 · cases hi <;> cases a <;> (intro B2; kernel_rfl)
 · exact fun B2 s' p' hB h1 b1 => Q s' p' h1 b1
 · intro v hv; rw [List.mem_singleton.mp hv]; exact getD_last rs (PySem.Value.ref g)
theorem baF2c {kh : Nat} {vh : Value} {k1 k2 : Nat} {v1 v2 : Value} {tu t1 t2' t3 : Nat} {la lb lc : List Nat} {r2 : Value} (hm : (lb == []) = true) (H : HpW (W3 w a b c) s1.heap [(L, baFr (W3 w a b c) K rm G r2 (.c kh vh k1 v1 k2 v2)), (G, listO (rs ++ [.ref g]) cG), (g, listO vs cc), (tu, tup3 (.str ⟨⟨la⟩⟩ t1) (.str ⟨⟨lb⟩⟩ t2') (.str ⟨⟨lc⟩⟩ t3))])
   (hR : ∀ s' tk, HpW (W3 w a b c) s'.heap [(L, baFr (W3 w a b c) K rm G (.str ⟨⟨lc⟩⟩ t3) (HI.cut (.c kh vh k1 v1 k2 v2) s1.toks (.str ⟨⟨la⟩⟩ t1) (s1.toks + 1) (.str ⟨⟨lb⟩⟩ t2')))] → Beh [L, G, g, tu] s1 s' → R (.ok (.ret (.str sNoC tk))) s') :
   Mn (model prg (W3 w a b c)) R (cfΓ (rBQ (W3 w a b c) s B L K rm G y lst tr hi rs g cG vs cc F x p)) (cfp (rBQ (W3 w a b c) s B L K rm G y lst tr hi rs g cG vs cc F x p)) (cfκ (rBQ (W3 w a b c) s B L K rm G y lst tr hi rs g cG vs cc F x p)) (ansT (rBQ (W3 w a b c) s B L K rm G y lst tr hi rs g cG vs cc F x p) (.ok (.ret (.ref tu)))) s1 := by
 refine sn_ok H 87 123344056649255254964574768793621494897702133465344894311621590816561363545971769604 [((lb == []), true)] [0] (fun _ => [baFr (W3 w a b c) K rm G (.str ⟨⟨lc⟩⟩ t3) (HI.cut (.c kh vh k1 v1 k2 v2) s1.toks (.str ⟨⟨la⟩⟩ t1) (s1.toks + 1) (.str ⟨⟨lb⟩⟩ t2'))]) (fun _ => .ret (.str sNoC (s1.toks + 4))) (dsC hm dsN) rfl (by decide) ?_ ?_
 · cases hi <;> cases a <;> (intro B2; kernel_rfl)
 · exact fun B2 s' hB h1 b1 => hR s' _ h1 b1
theorem baQ2 {hi2 : HI} (h2 : hi2 ≠ .a) {tu t1 t2' t3 : Nat} {la lb lc : List Nat} {r2 : Value} (hm : (lb == []) = false) (hx : idxOk (-1) (rs ++ [PySem.Value.ref g]).length = true) (hv : fits vs.length = true) (H : HpW (W3 w a b c) s1.heap [(L, baFr (W3 w a b c) K rm G r2 hi2), (G, listO (rs ++ [.ref g]) cG), (g, listO vs cc), (tu, tup3 (.str ⟨⟨la⟩⟩ t1) (.str ⟨⟨lb⟩⟩ t2') (.str ⟨⟨lc⟩⟩ t3))])
   (Q : ∀ s' p', HpW (W3 w a b c) s'.heap [(L, baFr (W3 w a b c) K rm G (.str ⟨⟨lc⟩⟩ t3) (HI.cut hi2 s1.toks (.str ⟨⟨la⟩⟩ t1) (s1.toks + 1) (.str ⟨⟨lb⟩⟩ t2'))), (G, listO (rs ++ [.ref g]) cG), (g, listO (vs ++ [.str ⟨⟨la⟩⟩ t1]) (cc + 1))] → Beh [L, G, g, tu] s1 s' → wpCode (model prg (W3 w a b c)) (gBL L F x) R p' s') :
   Mn (model prg (W3 w a b c)) R (cfΓ (rBQ (W3 w a b c) s B L K rm G y lst tr hi rs g cG vs cc F x p)) (cfp (rBQ (W3 w a b c) s B L K rm G y lst tr hi rs g cG vs cc F x p)) (cfκ (rBQ (W3 w a b c) s B L K rm G y lst tr hi rs g cG vs cc F x p)) (ansT (rBQ (W3 w a b c) s B L K rm G y lst tr hi rs g cG vs cc F x p) (.ok (.ret (.ref tu)))) s1 := by
 cases hi2 with
 | a => exact absurd rfl h2
 | b kh vh => exact baQ2b hm hx hv H Q
 | c kh vh k1 v1 k2 v2 => exact baQ2c hm hx hv H Q
theorem baF2 {hi2 : HI} (h2 : hi2 ≠ .a) {tu t1 t2' t3 : Nat} {la lb lc : List Nat} {r2 : Value} (hm : (lb == []) = true) (H : HpW (W3 w a b c) s1.heap [(L, baFr (W3 w a b c) K rm G r2 hi2), (G, listO (rs ++ [.ref g]) cG), (g, listO vs cc), (tu, tup3 (.str ⟨⟨la⟩⟩ t1) (.str ⟨⟨lb⟩⟩ t2') (.str ⟨⟨lc⟩⟩ t3))])
   (hR : ∀ s' tk, HpW (W3 w a b c) s'.heap [(L, baFr (W3 w a b c) K rm G (.str ⟨⟨lc⟩⟩ t3) (HI.cut hi2 s1.toks (.str ⟨⟨la⟩⟩ t1) (s1.toks + 1) (.str ⟨⟨lb⟩⟩ t2')))] → Beh [L, G, g, tu] s1 s' → R (.ok (.ret (.str sNoC tk))) s') :
   Mn (model prg (W3 w a b c)) R (cfΓ (rBQ (W3 w a b c) s B L K rm G y lst tr hi rs g cG vs cc F x p)) (cfp (rBQ (W3 w a b c) s B L K rm G y lst tr hi rs g cG vs cc F x p)) (cfκ (rBQ (W3 w a b c) s B L K rm G y lst tr hi rs g cG vs cc F x p)) (ansT (rBQ (W3 w a b c) s B L K rm G y lst tr hi rs g cG vs cc F x p) (.ok (.ret (.ref tu)))) s1 := by
 cases hi2 with
 | a => exact absurd rfl h2
 | b kh vh => exact baF2b hm H hR
 | c kh vh k1 v1 k2 v2 => exact baF2c hm H hR
theorem HI.head_ne (hi : HI) (k : Nat) (v : Value) : hi.head k v ≠ .a := by cases hi <;> (intro e; cases e)
theorem bcS (H : HpW (W3 w a b c) s.heap [(it, itO l 0), (acc, listO vs ca), (D, gcO (W3 w a b c) none)])
   (Q : ∀ s' p', HpW (W3 w a b c) s'.heap [(it, itO l 0), (acc, listO vs ca), (D, gcO (W3 w a b c) none)] → Beh [it, acc, D] s s' → wpCode (model prg (W3 w a b c)) (gCL it acc D L F x) R p' s') :
   wpCode (model prg (W3 w a b c)) (gCS it acc D L F x) R p s := by
 refine code_mn (c := cCS it acc D L) rfl (sn_again H (match c with | true => 1 | false => 11) (match c with | true => 0 | false => 17039425) [] [0,1,2] (fun _ => [itO l 0, listO vs ca, gcO (W3 w a b c) none]) (fun _ => gCL it acc D L F x) dsN ?_ (by decide) ?_ ?_)
 · rfl
 · cases c <;> cases a <;> (intro B; kernel_rfl)
 · exact fun B s' p' hB h1 b1 => Q s' p' h1 b1
theorem bc1 (H : HpW (W3 w a b c) s.heap [(it, itO l i), (acc, listO vs ca), (D, gcO (W3 w a b c) dc)])
   (Q : ∀ B s' p', HpW (W3 w a b c) s'.heap [(it, itO l i), (acc, listO vs ca), (D, gcO (W3 w a b c) dc)] → Beh [it, acc, D] s s' → wpCode (model prg (W3 w a b c)) ⟨.call (.builtin "list_iterator.__next__") ⟨[.ref it], []⟩, none, none, (cCL it acc D L, ⟨781,40,781,46⟩) :: (.func baDef.2.1 (envBA L), bcPos) :: bl F x, none⟩ (fun q s'' => Mn (model prg (W3 w a b c)) R (cfΓ (rE1 (W3 w a b c) s B it l i acc vs ca D dc L F x p)) (cfp (rE1 (W3 w a b c) s B it l i acc vs ca D dc L F x p)) (cfκ (rE1 (W3 w a b c) s B it l i acc vs ca D dc L F x p)) (ansT (rE1 (W3 w a b c) s B it l i acc vs ca D dc L F x p) q) s'') p' s') :
   wpCode (model prg (W3 w a b c)) (gCL it acc D L F x) R p s := by
 refine code_mn (c := cCL it acc D L) rfl (sn_call H 2 1 [] [0,1,2] (fun _ => [itO l i, listO vs ca, gcO (W3 w a b c) dc]) (fun _ => ⟨.call (.builtin "list_iterator.__next__") ⟨[.ref it], []⟩, none, none, (cCL it acc D L, ⟨781,40,781,46⟩) :: (.func baDef.2.1 (envBA L), bcPos) :: bl F x, none⟩) true dsN ?_ (by decide) ?_ ?_)
 · cases dc <;> rfl
 · cases dc <;> cases a <;> (intro B; kernel_rfl)
 · exact fun B s' p' hB h1 b1 => Q B s' p' h1 b1
theorem bc2 (H : HpW (W3 w a b c) s1.heap [(it, itO l (i + 1)), (acc, listO vs ca), (D, gcO (W3 w a b c) dc), (g, listO us cu)])
   (Q : ∀ B1 s' p' k, s1.heap.objs.size = B1 + 4 → HpW (W3 w a b c) s'.heap [(it, itO l (i + 1)), (acc, listO vs ca), (D, gcO (W3 w a b c) (some (k, .ref g))), (g, listO us cu), (B1 + 4, listO [] 0)] → Beh [it, acc, D, g] s1 s' → wpCode (model prg (W3 w a b c)) ⟨.call (.builtin "list.__ne__") ⟨[.ref g, .ref (B1 + 4)], []⟩, none, none, (cCL it acc D L, ⟨781,50,781,61⟩) :: (.func baDef.2.1 (envBA L), bcPos) :: bl F x, none⟩ (fun q s'' => Mn (model prg (W3 w a b c)) R (cfΓ (rE2 (W3 w a b c) s B it l i acc vs ca D dc L F x p s1 B1 g us cu)) (cfp (rE2 (W3 w a b c) s B it l i acc vs ca D dc L F x p s1 B1 g us cu)) (cfκ (rE2 (W3 w a b c) s B it l i acc vs ca D dc L F x p s1 B1 g us cu)) (ansT (rE2 (W3 w a b c) s B it l i acc vs ca D dc L F x p s1 B1 g us cu) q) s'') p' s') :
   Mn (model prg (W3 w a b c)) R (cfΓ (rE1 (W3 w a b c) s B it l i acc vs ca D dc L F x p)) (cfp (rE1 (W3 w a b c) s B it l i acc vs ca D dc L F x p)) (cfκ (rE1 (W3 w a b c) s B it l i acc vs ca D dc L F x p)) (ansT (rE1 (W3 w a b c) s B it l i acc vs ca D dc L F x p) (.ok (.ret (.ref g)))) s1 := by
 cases dc with
 | none =>
   refine sn_call H 17 4379914435 [] [0,1,2,3,4] (fun B1 => [itO l (i + 1), listO vs ca, gcO (W3 w a b c) (some (s1.toks, .ref g)), listO us cu, listO [] 0]) (fun B1 => ⟨.call (.builtin "list.__ne__") ⟨[.ref g, .ref (B1 + 4)], []⟩, none, none, (cCL it acc D L, ⟨781,50,781,61⟩) :: (.func baDef.2.1 (envBA L), bcPos) :: bl F x, none⟩) true dsN rfl (by decide) ?_ ?_
   · cases a <;> (intro B1; kernel_rfl)
   · exact fun B1 s' p' hB h1 b1 => Q B1 s' p' _ hB h1 b1
 | some z =>
   obtain ⟨k0, v0⟩ := z
   refine sn_call H 17 4379914435 [] [0,1,2,3,4] (fun B1 => [itO l (i + 1), listO vs ca, gcO (W3 w a b c) (some (k0,.ref g)), listO us cu, listO [] 0]) (fun B1 => ⟨.call (.builtin "list.__ne__") ⟨[.ref g, .ref (B1 + 4)], []⟩, none, none, (cCL it acc D L, ⟨781,50,781,61⟩) :: (.func baDef.2.1 (envBA L), bcPos) :: bl F x, none⟩) true dsN rfl (by decide) ?_ ?_
   · cases a <;> (intro B1; kernel_rfl)
   · exact fun B1 s' p' hB h1 b1 => Q B1 s' p' _ hB h1 b1
theorem bc3 (H : HpW (W3 w a b c) s2.heap [(it, itO l (i + 1)), (acc, listO vs ca), (D, gcO (W3 w a b c) (some (k, .ref g)))])
   (Q : ∀ B2 s' p', HpW (W3 w a b c) s'.heap [(it, itO l (i + 1)), (acc, listO vs ca), (D, gcO (W3 w a b c) (some (k, .ref g)))] → Beh [it, acc, D] s2 s' → wpCode (model prg (W3 w a b c)) ⟨.call (.builtin "str.join") ⟨[.str ⟨#[]⟩ s2.toks, .ref g], []⟩, none, none, (cCL it acc D L, ⟨781,12,781,26⟩) :: (.func baDef.2.1 (envBA L), bcPos) :: bl F x, none⟩ (fun q s'' => Mn (model prg (W3 w a b c)) R (cfΓ (rE3 (W3 w a b c) s B it l i acc vs ca D dc L F x p s1 B1 g us cu s2 B2 k)) (cfp (rE3 (W3 w a b c) s B it l i acc vs ca D dc L F x p s1 B1 g us cu s2 B2 k)) (cfκ (rE3 (W3 w a b c) s B it l i acc vs ca D dc L F x p s1 B1 g us cu s2 B2 k)) (ansT (rE3 (W3 w a b c) s B it l i acc vs ca D dc L F x p s1 B1 g us cu s2 B2 k) q) s'') p' s') :
   Mn (model prg (W3 w a b c)) R (cfΓ (rE2 (W3 w a b c) s B it l i acc vs ca D dc L F x p s1 B1 g us cu)) (cfp (rE2 (W3 w a b c) s B it l i acc vs ca D dc L F x p s1 B1 g us cu)) (cfκ (rE2 (W3 w a b c) s B it l i acc vs ca D dc L F x p s1 B1 g us cu)) (ansT (rE2 (W3 w a b c) s B it l i acc vs ca D dc L F x p s1 B1 g us cu) (.ok (.ret (.bool true)))) s2 := by
 refine sn_call H 7 3 [] [0,1,2] (fun _ => [itO l (i + 1), listO vs ca, gcO (W3 w a b c) (some (k, .ref g))]) (fun _ => ⟨.call (.builtin "str.join") ⟨[.str ⟨#[]⟩ s2.toks, .ref g], []⟩, none, none, (cCL it acc D L, ⟨781,12,781,26⟩) :: (.func baDef.2.1 (envBA L), bcPos) :: bl F x, none⟩) true dsN rfl (by decide) ?_ ?_
 · cases dc <;> cases a <;> (intro B2; kernel_rfl)
 · exact fun B2 s' p' hB h1 b1 => Q B2 s' p' h1 b1
theorem bc4 (hf : fits vs.length = true) (H : HpW (W3 w a b c) s3.heap [(it, itO l (i + 1)), (acc, listO vs ca), (D, gcO (W3 w a b c) (some (k, .ref g)))])
   (Q : ∀ s' p', HpW (W3 w a b c) s'.heap [(it, itO l (i + 1)), (acc, listO (vs ++ [.str v4 t4]) (ca + 1)), (D, gcO (W3 w a b c) (some (k, .ref g)))] → Beh [it, acc, D] s3 s' → wpCode (model prg (W3 w a b c)) (gCL it acc D L F x) R p' s') :
   Mn (model prg (W3 w a b c)) R (cfΓ (rE3 (W3 w a b c) s B it l i acc vs ca D dc L F x p s1 B1 g us cu s2 B2 k)) (cfp (rE3 (W3 w a b c) s B it l i acc vs ca D dc L F x p s1 B1 g us cu s2 B2 k)) (cfκ (rE3 (W3 w a b c) s B it l i acc vs ca D dc L F x p s1 B1 g us cu s2 B2 k)) (ansT (rE3 (W3 w a b c) s B it l i acc vs ca D dc L F x p s1 B1 g us cu s2 B2 k) (.ok (.ret (.str v4 t4)))) s3 := by
 refine sn_again H 2 165 [(fits vs.length, true)] [0,1,2] (fun _ => [itO l (i + 1), listO (vs ++ [.str v4 t4]) (ca + 1), gcO (W3 w a b c) (some (k, .ref g))]) (fun _ => gCL it acc D L F x) (dsC hf dsN) rfl (by decide) ?_ ?_
 · cases dc <;> cases a <;> (intro B3; kernel_rfl)
 · exact fun B3 s' p' hB h1 b1 => Q s' p' h1 b1
theorem bcN (H : HpW (W3 w a b c) s2.heap [(it, itO l (i + 1)), (acc, listO vs ca), (D, gcO (W3 w a b c) (some (k, .ref g)))])
   (Q : ∀ s' p', HpW (W3 w a b c) s'.heap [(it, itO l (i + 1)), (acc, listO vs ca), (D, gcO (W3 w a b c) (some (k, .ref g)))] → Beh [it, acc, D] s2 s' → wpCode (model prg (W3 w a b c)) (gCL it acc D L F x) R p' s') :
   Mn (model prg (W3 w a b c)) R (cfΓ (rE2 (W3 w a b c) s B it l i acc vs ca D dc L F x p s1 B1 g us cu)) (cfp (rE2 (W3 w a b c) s B it l i acc vs ca D dc L F x p s1 B1 g us cu)) (cfκ (rE2 (W3 w a b c) s B it l i acc vs ca D dc L F x p s1 B1 g us cu)) (ansT (rE2 (W3 w a b c) s B it l i acc vs ca D dc L F x p s1 B1 g us cu) (.ok (.ret (.bool false)))) s2 := by
 refine sn_again H 1 0 [] [0,1,2] (fun _ => [itO l (i + 1), listO vs ca, gcO (W3 w a b c) (some (k, .ref g))]) (fun _ => gCL it acc D L F x) dsN rfl (by decide) ?_ ?_
 · cases dc <;> cases a <;> (intro B3; kernel_rfl)
 · exact fun B3 s' p' hB h1 b1 => Q s' p' h1 b1
theorem bcE (H : HpW (W3 w a b c) s1.heap [(e, excNew "StopIteration" t)]) (hR : ∀ s', HpW (W3 w a b c) s'.heap [(e, excNew "StopIteration" t)] → Beh [e] s1 s' → R (.ok .next) s') :
   Mn (model prg (W3 w a b c)) R (cfΓ (rE1 (W3 w a b c) s B it l i acc vs ca D dc L F x p)) (cfp (rE1 (W3 w a b c) s B it l i acc vs ca D dc L F x p)) (cfκ (rE1 (W3 w a b c) s B it l i acc vs ca D dc L F x p)) (ansT (rE1 (W3 w a b c) s B it l i acc vs ca D dc L F x p) (.error (.ref e))) s1 := by
 refine sn_ok H 1 1 [] [0] (fun _ => [excNew "StopIteration" t]) (fun _ => .next) dsN rfl (by decide) ?_ ?_
 · cases dc <;> cases a <;> (intro B2; kernel_rfl)
 · exact fun B2 s3 _ h2 b2 => hR s3 h2 b2
end
end Mine
end
section
namespace Mine
open PySem PySem.W PySem.Calls
inductive BM where
 | out
 | quo
 | com
noncomputable def bareM (rm : Bool) : BM → Option (List Nat) → List Nat → Option (List (List Nat))
 | .out, cur, [] => some cur.toList
 | .quo, _, [] => none
 | .com, cur, [] => some cur.toList
 | .out, cur, y :: l =>
   if y = 39 then bareM rm .quo (some (cur.getD [])) l
   else if y = 9 ∨ y = 13 ∨ y = 10 then (bareM rm .out none l).map (cur.toList ++ ·)
   else if y = 35 ∧ rm = true then (bareM rm .com none l).map (cur.toList ++ ·)
   else bareM rm .out (some (cur.getD [] ++ [y])) l
 | .quo, cur, y :: l => if y = 39 then bareM rm .out cur l else bareM rm .quo (some (cur.getD [] ++ [y])) l
 | .com, cur, y :: l => if y = 10 then bareM rm .out none l else bareM rm .com none l
theorem bq {rm : Bool} {cur : Option (List Nat)} {y : Nat} {l : List Nat} : bareM rm .quo cur (y :: l) = if y = 39 then bareM rm .out cur l else bareM rm .quo (some (cur.getD [] ++ [y])) l := by rw [bareM]
theorem bcm {rm : Bool} {cur : Option (List Nat)} {y : Nat} {l : List Nat} : bareM rm .com cur (y :: l) = if y = 10 then bareM rm .out none l else bareM rm .com none l := by rw [bareM]
theorem bo {rm : Bool} {cur : Option (List Nat)} {y : Nat} {l : List Nat} : bareM rm .out cur (y :: l) =
   if y = 39 then bareM rm .quo (some (cur.getD [])) l
   else if y = 9 ∨ y = 13 ∨ y = 10 then (bareM rm .out none l).map (cur.toList ++ ·)
   else if y = 35 ∧ rm = true then (bareM rm .com none l).map (cur.toList ++ ·)
   else bareM rm .out (some (cur.getD [] ++ [y])) l := by rw [bareM]
theorem bareM_quo {rm : Bool} : ∀ {l : List Nat} {u : List Nat}, bareM rm .quo (some u) l = match cut 39 l with | some (x, y) => bareM rm .out (some (u ++ x)) y | none => none
 | [], u => by rw [bareM]; rfl
 | y :: l, u => by
   rw [bq]
   unfold cut
   by_cases h : y = 39
   · rw [if_pos h, if_pos h]; simp only [List.append_nil]
   · rw [if_neg h, if_neg h, bareM_quo (l := l)]
     cases cut 39 l with
     | none => rfl
     | some z => obtain ⟨x, r⟩ := z; simp only [Option.getD_some, List.append_assoc, List.singleton_append]
theorem bareM_com {rm : Bool} : ∀ {l : List Nat}, bareM rm .com none l = match cut 10 l with | some (_, y) => bareM rm .out none y | none => some []
 | [] => by rw [bareM]; rfl
 | y :: l => by
   rw [bcm]
   unfold cut
   by_cases h : y = 10
   · rw [if_pos h, if_pos h]
   · rw [if_neg h, if_neg h, bareM_com (l := l)]
     cases cut 10 l with
     | none => rfl
     | some z => rfl
structure Gp where
 a : Nat
 vs : List Value
 n : Nat
 ts : List (List Nat)
noncomputable def Gp.o (g : Gp) : Nat × Obj := (g.a, listO g.vs g.n)
noncomputable def refs (dn : List Gp) : List Value := dn.map fun g => .ref g.a
noncomputable def objs (dn : List Gp) : List (Nat × Obj) := dn.map Gp.o
noncomputable def curOf : List (List Nat) → Option (List Nat)
 | [] => none
 | t :: r => some (t :: r).flatten
noncomputable def outs : List Gp → List (List Nat)
 | [] => []
 | g :: r => (curOf g.ts).toList ++ outs r
theorem outs_app : ∀ a b : List Gp, outs (a ++ b) = outs a ++ outs b
 | [], _ => rfl
 | g :: r, b => by show (curOf g.ts).toList ++ outs (r ++ b) = (curOf g.ts).toList ++ outs r ++ outs b; rw [outs_app r b, List.append_assoc]
theorem curOf_add : ∀ (ts : List (List Nat)) (x : List Nat), curOf (ts ++ [x]) = some ((curOf ts).getD [] ++ x)
 | [], x => by simp [curOf]
 | t :: r, x => by simp [curOf]
structure GpOk (g : Gp) : Prop where
 iss : IsStrs g.vs g.ts
 len : g.vs.length ≤ 300
 flat : g.ts.flatten.length ≤ 300
theorem slc_tail (y : Nat) (l : List Nat) : slc ⟨⟨y :: l⟩⟩ 1 (⟨⟨y :: l⟩⟩ : Str).length = ⟨⟨l⟩⟩ := by
 unfold slc
 show (⟨((y :: l).drop 1 |>.take ((y :: l).length - 1)).toArray⟩ : Str) = _
 simp
theorem it_ok {y : Nat} {l : List Nat} (h : (y :: l).length ≤ 1000) : (fits (⟨⟨y :: l⟩⟩ : Str).length && decide ((0 : Int) ≤ 0) && decide ((0 : Int) < (⟨⟨y :: l⟩⟩ : Str).length)) = true := by
 have lz : (⟨⟨y :: l⟩⟩ : Str).length = l.length + 1 := rfl
 rw [lz, fits_of (by simpa using h)]
 simp
 try omega
theorem sl_ok {y : Nat} {l : List Nat} (h : (y :: l).length ≤ 1000) : (fits (⟨⟨y :: l⟩⟩ : Str).length && decide ((0 : Int) < 1) && decide ((1 : Int) ≤ (⟨⟨y :: l⟩⟩ : Str).length)) = true := by
 have lz : (⟨⟨y :: l⟩⟩ : Str).length = l.length + 1 := rfl
 rw [lz, fits_of (by simpa using h)]
 simp
 try omega
theorem hasS_nl (y : Nat) : hasS ⟨#[9,13,10]⟩ ⟨#[y]⟩ = decide (y = 9 ∨ y = 13 ∨ y = 10) := by
 rw [hasS_one]; simp
noncomputable def BaOut (w : World) (R : Result → Shared → Prop) (s₀ : Shared) (L G : Nat) (K : BaK) (rm : Bool) (pre : List (List Nat)) : Option (List (List Nat)) → Prop
 | none => ∀ s' tk, HpW w s'.heap [] → Beh [] s₀ s' → R (.ok (.ret (.str sNoC tk))) s'
 | some us => ∀ s' dn r hi cG, HpW w s'.heap ([(L, baFr w K rm G r hi), (G, listO (refs dn) cG)] ++ objs dn) → (∀ g ∈ dn, GpOk g ∧ s₀.heap.get? g.a = none) → dn.length ≤ 300 → 0 < dn.length → Beh [] s₀ s' → outs dn = pre ++ us → R (.ok .next) s'
theorem BaOut.map {w : World} {R : Result → Shared → Prop} {s₀ : Shared} {L G : Nat} {K : BaK} {rm : Bool} {pre add : List (List Nat)} {o : Option (List (List Nat))} (h : BaOut w R s₀ L G K rm pre (o.map (add ++ ·))) : BaOut w R s₀ L G K rm (pre ++ add) o := by
 cases o with
 | none => exact h
 | some us => exact fun s' dn r hi cG h1 h2 h3 h6 h4 h5 => h s' dn r hi cG h1 h2 h3 h6 h4 (by rw [h5, List.append_assoc])
theorem ba_end {w : World} {a b c rm : Bool} {s₀ s : Shared} {L G F : Nat} {K : BaK} {x : S0} {p : Pos} {tr : Nat} {hi : HI} {dn : List Gp} {g : Gp} {cG : Nat} {R : Result → Shared → Prop} (dL : s₀.heap.get? L = none) (dG : s₀.heap.get? G = none)
   (h1 : ([] : List Nat).length + dn.length ≤ 200) (h2 : ([] : List Nat).length + g.vs.length ≤ 200) (h3 : ([] : List Nat).length + g.ts.flatten.length ≤ 200)
   (H : HpW (W3 w a b c) s.heap ([(L, baFr (W3 w a b c) K rm G (.str ⟨⟨[]⟩⟩ tr) hi), (G, listO (refs dn ++ [.ref g.a]) cG), (g.a, listO g.vs g.n)] ++ objs dn))
   (hs : IsStrs g.vs g.ts) (hd : ∀ g ∈ dn, GpOk g ∧ s₀.heap.get? g.a = none) (dg : s₀.heap.get? g.a = none) (b0 : Beh [] s₀ s)
   (hR : BaOut (W3 w a b c) R s₀ L G K rm (outs dn) (bareM rm .out (curOf g.ts) [])) : wpCode (model prg (W3 w a b c)) (gBL L F x) R p s := by
 refine baE (Hp.sub (List.Sublist.cons_cons _ (List.nil_sublist _)) (Hp.part H)) fun s1 H1 b1 => ?_
 have H2 := Hp.join (A := [(L, baFr (W3 w a b c) K rm G (.str ⟨⟨[]⟩⟩ tr) hi)]) (C := (G, listO (refs dn ++ [.ref g.a]) cG) :: (g.a, listO g.vs g.n) :: objs dn) H H1 b1 rfl
 rw [bareM] at hR
 refine hR s1 (dn ++ [g]) (.str ⟨⟨[]⟩⟩ tr) hi cG (H2.perm ?_) (fun g' hg => ?_) (by rw [List.length_append]; simp at h1 ⊢; omega) (by simp) (Beh.drop (as := [L]) (Beh.trans (Beh.widen b0 (by simp)) b1 (by simp)) fun z hz => .inr (by rw [List.mem_singleton.mp hz]; exact dL)) ?_
 · have e1 : refs (dn ++ [g]) = refs dn ++ [.ref g.a] := by simp [refs]
   have e2 : objs (dn ++ [g]) = objs dn ++ [(g.a, listO g.vs g.n)] := by simp [objs, Gp.o]
   rw [e1, e2]
   refine List.Perm.cons _ (List.Perm.cons _ ?_)
   exact (List.perm_append_singleton _ _).symm
 · rcases List.mem_append.mp hg with h | h
   · exact hd g' h
   · rw [List.mem_singleton.mp h]; exact ⟨⟨hs, by simp at h2; omega, by simp at h3 ⊢; omega⟩, dg⟩
 · rw [outs_app]; simp [outs]
theorem ba_loop {w : World} {a b c rm : Bool} {s₀ : Shared} {L G F : Nat} {K : BaK} {x : S0} {R : Result → Shared → Prop} (dL : s₀.heap.get? L = none) (dG : s₀.heap.get? G = none) :
   ∀ (n : Nat) (s : Shared) (p : Pos) (rest : List Nat) (tr : Nat) (hi : HI) (dn : List Gp) (g : Gp) (cG : Nat), rest.length ≤ n → rest.length + dn.length ≤ 200 → rest.length + g.vs.length ≤ 200 → rest.length + g.ts.flatten.length ≤ 200 →
     HpW (W3 w a b c) s.heap ([(L, baFr (W3 w a b c) K rm G (.str ⟨⟨rest⟩⟩ tr) hi), (G, listO (refs dn ++ [.ref g.a]) cG), (g.a, listO g.vs g.n)] ++ objs dn) →
     IsStrs g.vs g.ts → (∀ g ∈ dn, GpOk g ∧ s₀.heap.get? g.a = none) → s₀.heap.get? g.a = none → Beh [] s₀ s →
     BaOut (W3 w a b c) R s₀ L G K rm (outs dn) (bareM rm .out (curOf g.ts) rest) → wpCode (model prg (W3 w a b c)) (gBL L F x) R p s := by
 intro n
 induction n with
 | zero =>
   intro s p rest tr hi dn g cG hn h1 h2 h3 H hs hd dg b0 hR
   have : rest = [] := List.length_eq_zero_iff.mp (by omega)
   subst this
   exact ba_end dL dG h1 h2 h3 H hs hd dg b0 hR
 | succ n ih =>
   intro s p rest tr hi dn g cG hn h1 h2 h3 H hs hd dg b0 hR
   cases rest with
   | nil => exact ba_end dL dG h1 h2 h3 H hs hd dg b0 hR
   | cons y l =>
     have lr : (y :: l).length = l.length + 1 := rfl
     have i1 := it_ok (y := y) (l := l) (by omega)
     have i2 := sl_ok (y := y) (l := l) (by omega)
     have hx : idxOk (-1) (refs dn ++ [PySem.Value.ref g.a]).length = true := idx1_ok (by unfold refs; rw [List.length_map]; omega)
     have hv : fits g.vs.length = true := fits_of (by omega)
     have hr : fits (refs dn ++ [PySem.Value.ref g.a]).length = true := fits_of (by unfold refs; rw [List.length_append, List.length_map, List.length_singleton]; omega)
     have lg : g.ts.flatten.length ≤ 300 := by omega
     have okg : GpOk g := ⟨hs, by omega, lg⟩
     rw [bo] at hR
     have dth : ∀ {s' : Shared}, Beh [L, G, g.a] s s' → Beh [] s₀ s' := fun b1 => Beh.drop (as := [L, G, g.a]) (Beh.trans (Beh.widen b0 (by simp)) b1 (by simp)) fun z hz => .inr (by
       simp only [List.mem_cons, List.not_mem_nil, or_false] at hz
       rcases hz with h | h | h
       · rw [h]; exact dL
       · rw [h]; exact dG
       · rw [h]; exact dg)
     have lrf : (refs dn).length = dn.length := by unfold refs; rw [List.length_map]
     have lob : ∀ z ∈ objs dn, ∃ g' ∈ dn, z = g'.o := fun z hz => by
       obtain ⟨g', hg, rfl⟩ := List.mem_map.mp hz
       exact ⟨g', hg, rfl⟩
     by_cases hq : y = 39
     · rw [if_pos hq, bareM_quo] at hR
       refine baQ i1 i2 (by simp [hq]) (Hp.part H) fun B s1 p1 hB H1 b1 => ?_
       have HJ := Hp.join (A := [(L, baFr (W3 w a b c) K rm G (.str ⟨⟨y :: l⟩⟩ tr) hi), (G, listO (refs dn ++ [.ref g.a]) cG), (g.a, listO g.vs g.n)]) (C := objs dn) H H1 b1 rfl
       rw [slc_tail] at HJ ⊢
       refine part_call rfl HJ.nil (by omega) ?_
       cases hc : cut 39 l with
       | none =>
         intro s2 tu k h2 b2 d2
         rw [hc] at hR
         have HN := Hp.swap (A := [(tu, tup3 (.str ⟨⟨l⟩⟩ (s.toks + 5)) (.str ⟨#[]⟩ k) (.str ⟨#[]⟩ k))]) (Hp.new (Hp.part HJ) h2 b2 fun z hz => by rw [List.mem_singleton.mp hz]; exact d2)
         refine baF2 (HI.head_ne hi _ _) (lb := []) (lc := []) rfl HN fun s3 tk h3 b3 => ?_
         refine hR s3 tk h3.nil ?_
         have b02 := Beh.trans (dth b1) b2 (by simp)
         refine Beh.drop (as := [L, G, g.a, tu]) (Beh.trans (Beh.widen b02 (by simp)) b3 (by simp)) fun z hz => .inr ?_
         simp only [List.mem_cons, List.not_mem_nil, or_false] at hz
         rcases hz with h | h | h | h
         · rw [h]; exact dL
         · rw [h]; exact dG
         · rw [h]; exact dg
         · rw [h]; exact dead_nil (dth b1) _ d2
       | some z =>
         obtain ⟨xa, xb⟩ := z
         intro s2 tu k j h2 b2 d2
         rw [hc] at hR
         have lc := cut_length hc
         have HN := Hp.swap (A := [(tu, tup3 (.str ⟨⟨xa⟩⟩ k) (.str ⟨#[39]⟩ (s.toks + 8)) (.str ⟨⟨xb⟩⟩ j))]) (C := [(L, baFr (W3 w a b c) K rm G (.str ⟨⟨l⟩⟩ (s.toks + 5)) (hi.head (s.toks + 3) (.str ⟨#[y]⟩ (s.toks + 2)))), (G, listO (refs dn ++ [.ref g.a]) cG), (g.a, listO g.vs g.n)] ++ objs dn) (Hp.new HJ h2 b2 fun z hz => by rw [List.mem_singleton.mp hz]; exact d2)
         have HN' : HpW (W3 w a b c) s2.heap ([(L, baFr (W3 w a b c) K rm G (.str ⟨⟨l⟩⟩ (s.toks + 5)) (hi.head (s.toks + 3) (.str ⟨#[y]⟩ (s.toks + 2)))), (G, listO (refs dn ++ [.ref g.a]) cG), (g.a, listO g.vs g.n), (tu, tup3 (.str ⟨⟨xa⟩⟩ k) (.str ⟨#[39]⟩ (s.toks + 8)) (.str ⟨⟨xb⟩⟩ j))] ++ objs dn) := HN.perm (by
           refine List.Perm.cons _ (List.Perm.cons _ (List.Perm.cons _ ?_))
           exact List.perm_append_singleton _ _)
         refine baQ2 (HI.head_ne hi _ _) (lb := [39]) rfl hx hv (Hp.part HN') fun s3 p3 h3 b3 => ?_
         have H4 := Hp.join2 HN' h3 b3 (fun z hz => .inl (by simpa using hz)) (fun z hz => .inl (by
           simp only [List.mem_cons, List.not_mem_nil, or_false] at hz
           rcases hz with rfl | rfl | rfl <;> simp))
         have b02 := Beh.trans (dth b1) b2 (by simp)
         refine ih s3 p3 xb j _ dn ⟨g.a, g.vs ++ [.str ⟨⟨xa⟩⟩ k], g.n + 1, g.ts ++ [xa]⟩ cG (by omega) (by omega) (by simp only [List.length_append, List.length_singleton]; omega) (by simp only [List.flatten_append, List.length_append, List.flatten_cons, List.flatten_nil, List.length_nil]; omega) H4 (hs.append ⟨⟨_, rfl⟩, trivial⟩) hd dg ?_ ?_
         · refine Beh.drop (as := [L, G, g.a, tu]) (Beh.trans (Beh.widen b02 (by simp)) b3 (by simp)) fun z hz => .inr ?_
           simp only [List.mem_cons, List.not_mem_nil, or_false] at hz
           rcases hz with h | h | h | h
           · rw [h]; exact dL
           · rw [h]; exact dG
           · rw [h]; exact dg
           · rw [h]; exact dead_nil (dth b1) _ d2
         · rw [curOf_add]; exact hR
     · rw [if_neg hq] at hR
       have hq' : ([y] == [39]) = false := by simp [hq]
       have dB : ∀ {B : Nat}, s.heap.objs.size = B + 3 → s₀.heap.get? (B + 4) = none := fun hB => dead_nil b0 _ (Heap.get?_none_of_le (by omega))
       by_cases hw : y = 9 ∨ y = 13 ∨ y = 10
       · rw [if_pos hw] at hR
         have hw' : hasS ⟨#[9,13,10]⟩ ⟨#[y]⟩ = true := by rw [hasS_nl]; exact decide_eq_true hw
         refine baW1 i1 i2 hq' hw' hr (Hp.part H) fun B s1 p1 hB H1 b1 => ?_
         have dB0 : s.heap.get? (B + 4) = none := Heap.get?_none_of_le (by omega)
         have HJ := Hp.join2 H H1 b1 (fun z hz => .inl (by simpa using hz)) (fun z hz => by
           simp only [List.mem_cons, List.not_mem_nil, or_false] at hz
           rcases hz with rfl | rfl | rfl | rfl
           · exact .inl (by simp)
           · exact .inl (by simp)
           · exact .inl (by simp)
           · exact .inr dB0)
         rw [slc_tail] at HJ
         refine ih s1 p1 l (s.toks + 5) (hi.head (s.toks + 3) (.str ⟨#[y]⟩ (s.toks + 2))) (dn ++ [g]) ⟨B + 4, [], 0, []⟩ (cG + 1) (by omega) (by rw [List.length_append, List.length_singleton]; omega) (by simp; omega) (by simp; omega) (HJ.perm ?_) trivial (fun g' hg => ?_) (dB hB) (dth b1) ?_
         · have e1 : refs (dn ++ [g]) = refs dn ++ [.ref g.a] := by simp [refs]
           have e2 : objs (dn ++ [g]) = objs dn ++ [(g.a, listO g.vs g.n)] := by simp [objs, Gp.o]
           rw [e1, e2]
           refine List.Perm.cons _ (List.Perm.cons _ ?_)
           exact (List.perm_append_singleton _ _).symm
         · rcases List.mem_append.mp hg with h | h
           · exact hd g' h
           · rw [List.mem_singleton.mp h]; exact ⟨okg, dg⟩
         · have := BaOut.map hR
           rw [outs_app]
           simpa [outs, curOf] using this
       · rw [if_neg hw] at hR
         have hw' : hasS ⟨#[9,13,10]⟩ ⟨#[y]⟩ = false := by rw [hasS_nl]; exact decide_eq_false hw
         by_cases hh : y = 35
         · have hh' : ([y] == [35]) = true := by simp [hh]
           cases rm with
           | false =>
             rw [if_neg (by simp)] at hR
             refine baXh i1 i2 hq' hw' hh' hx hv (Hp.part H) fun B s1 p1 hB H1 b1 => ?_
             have HJ := Hp.join (A := [(L, baFr (W3 w a b c) K false G (.str ⟨⟨y :: l⟩⟩ tr) hi), (G, listO (refs dn ++ [.ref g.a]) cG), (g.a, listO g.vs g.n)]) (C := objs dn) H H1 b1 rfl
             rw [slc_tail] at HJ
             refine ih s1 p1 l (s.toks + 5) (hi.head (s.toks + 3) (.str ⟨#[y]⟩ (s.toks + 2))) dn ⟨g.a, g.vs ++ [.str ⟨⟨[y]⟩⟩ (s.toks + 2)], g.n + 1, g.ts ++ [[y]]⟩ cG (by omega) (by omega) (by simp only [List.length_append, List.length_singleton]; omega) (by simp only [List.flatten_append, List.length_append, List.flatten_cons, List.flatten_nil, List.length_nil, List.length_singleton]; omega) HJ (hs.append ⟨⟨_, rfl⟩, trivial⟩) hd dg (dth b1) ?_
             rw [curOf_add]; exact hR
           | true =>
             rw [if_pos ⟨hh, rfl⟩, bareM_com] at hR
             refine baC i1 i2 hq' hw' hh' hr (Hp.part H) fun B s1 p1 hB H1 b1 => ?_
             have dB0 : s.heap.get? (B + 4) = none := Heap.get?_none_of_le (by omega)
             have HJ := Hp.join2 H H1 b1 (fun z hz => .inl (by simpa using hz)) (fun z hz => by
               simp only [List.mem_cons, List.not_mem_nil, or_false] at hz
               rcases hz with rfl | rfl | rfl | rfl
               · exact .inl (by simp)
               · exact .inl (by simp)
               · exact .inl (by simp)
               · exact .inr dB0)
             rw [slc_tail] at HJ ⊢
             have fin : ∀ (la lb lc : List Nat) (t1 t2 t3 tu : Nat) (s2 : Shared), lc.length ≤ l.length → BaOut (W3 w a b c) R s₀ L G K true (outs dn ++ (curOf g.ts).toList) (bareM true .out none lc) → HpW (W3 w a b c) s2.heap [(tu, tup3 (.str ⟨⟨la⟩⟩ t1) (.str ⟨⟨lb⟩⟩ t2) (.str ⟨⟨lc⟩⟩ t3))] → Beh [] s1 s2 → s1.heap.get? tu = none →
                 Mn (model prg (W3 w a b c)) R (cfΓ (rBC (W3 w a b c) s B L K G y l tr hi (refs dn) g.a cG g.vs g.n F x p)) (cfp (rBC (W3 w a b c) s B L K G y l tr hi (refs dn) g.a cG g.vs g.n F x p)) (cfκ (rBC (W3 w a b c) s B L K G y l tr hi (refs dn) g.a cG g.vs g.n F x p)) (ansT (rBC (W3 w a b c) s B L K G y l tr hi (refs dn) g.a cG g.vs g.n F x p) (.ok (.ret (.ref tu)))) s2 := by
               intro la lb lc t1 t2 t3 tu s2 hlc hR' h2 b2 d2
               have HN := Hp.swap (A := [(tu, tup3 (.str ⟨⟨la⟩⟩ t1) (.str ⟨⟨lb⟩⟩ t2) (.str ⟨⟨lc⟩⟩ t3))]) (C := [(L, baFr (W3 w a b c) K true G (.str ⟨⟨l⟩⟩ (s.toks + 5)) (hi.head (s.toks + 3) (.str ⟨#[y]⟩ (s.toks + 2)))), (G, listO (refs dn ++ [.ref g.a] ++ [.ref (B + 4)]) (cG + 1)), (g.a, listO g.vs g.n)] ++ ((B + 4, listO [] 0) :: objs dn)) (Hp.new HJ h2 b2 fun z hz => by rw [List.mem_singleton.mp hz]; exact d2)
               have HN' : HpW (W3 w a b c) s2.heap ([(L, baFr (W3 w a b c) K true G (.str ⟨⟨l⟩⟩ (s.toks + 5)) (hi.head (s.toks + 3) (.str ⟨#[y]⟩ (s.toks + 2)))), (G, listO (refs dn ++ [.ref g.a] ++ [.ref (B + 4)]) (cG + 1)), (g.a, listO g.vs g.n), (tu, tup3 (.str ⟨⟨la⟩⟩ t1) (.str ⟨⟨lb⟩⟩ t2) (.str ⟨⟨lc⟩⟩ t3))] ++ ((B + 4, listO [] 0) :: objs dn)) := HN.perm (by
                 refine List.Perm.cons _ (List.Perm.cons _ (List.Perm.cons _ ?_))
                 exact List.perm_append_singleton _ _)
               refine baC2 (Hp.part HN') fun s3 p3 h3 b3 => ?_
               have H4 := Hp.join2 HN' h3 b3 (fun z hz => .inl (by simpa using hz)) (fun z hz => .inl (by
                 simp only [List.mem_cons, List.not_mem_nil, or_false] at hz
                 rcases hz with rfl | rfl | rfl <;> simp))
               have b02 := Beh.trans (dth b1) b2 (by simp)
               refine ih s3 p3 lc t3 (hi.head (s.toks + 3) (.str ⟨#[y]⟩ (s.toks + 2))) (dn ++ [g]) ⟨B + 4, [], 0, []⟩ (cG + 1) (by omega) (by rw [List.length_append, List.length_singleton]; omega) (by simp; omega) (by simp; omega) (H4.perm ?_) trivial (fun g' hg => ?_) (dB hB) ?_ ?_
               · have e1 : refs (dn ++ [g]) = refs dn ++ [.ref g.a] := by simp [refs]
                 have e2 : objs (dn ++ [g]) = objs dn ++ [(g.a, listO g.vs g.n)] := by simp [objs, Gp.o]
                 rw [e1, e2]
                 refine List.Perm.cons _ (List.Perm.cons _ ?_)
                 exact (List.perm_append_singleton _ _).symm
               · rcases List.mem_append.mp hg with h | h
                 · exact hd g' h
                 · rw [List.mem_singleton.mp h]; exact ⟨okg, dg⟩
               · refine Beh.drop (as := [L, G, g.a, tu]) (Beh.trans (Beh.widen b02 (by simp)) b3 (by simp)) fun z hz => .inr ?_
                 simp only [List.mem_cons, List.not_mem_nil, or_false] at hz
                 rcases hz with h | h | h | h
                 · rw [h]; exact dL
                 · rw [h]; exact dG
                 · rw [h]; exact dg
                 · rw [h]; exact dead_nil (dth b1) _ d2
               · rw [outs_app]
                 simpa [outs, curOf] using hR'
             refine part_call rfl HJ.nil (by omega) ?_
             have hR' := BaOut.map hR
             cases hc : cut 10 l with
             | none =>
               intro s2 tu k h2 b2 d2
               rw [hc] at hR'
               exact fin l [] [] _ _ _ tu s2 (Nat.zero_le _) (by rw [bareM]; exact hR') h2 b2 d2
             | some z =>
               obtain ⟨xa, xb⟩ := z
               intro s2 tu k j h2 b2 d2
               rw [hc] at hR'
               have lc := cut_length hc
               exact fin xa [10] xb _ _ _ tu s2 (by omega) hR' h2 b2 d2
         · rw [if_neg (fun h => hh h.1)] at hR
           have hh' : ([y] == [35]) = false := by simp [hh]
           refine baX i1 i2 hq' hw' hh' hx hv (Hp.part H) fun B s1 p1 hB H1 b1 => ?_
           have HJ := Hp.join (A := [(L, baFr (W3 w a b c) K rm G (.str ⟨⟨y :: l⟩⟩ tr) hi), (G, listO (refs dn ++ [.ref g.a]) cG), (g.a, listO g.vs g.n)]) (C := objs dn) H H1 b1 rfl
           rw [slc_tail] at HJ
           refine ih s1 p1 l (s.toks + 5) (hi.head (s.toks + 3) (.str ⟨#[y]⟩ (s.toks + 2))) dn ⟨g.a, g.vs ++ [.str ⟨⟨[y]⟩⟩ (s.toks + 2)], g.n + 1, g.ts ++ [[y]]⟩ cG (by omega) (by omega) (by simp only [List.length_append, List.length_singleton]; omega) (by simp only [List.flatten_append, List.length_append, List.flatten_cons, List.flatten_nil, List.length_nil, List.length_singleton]; omega) HJ (hs.append ⟨⟨_, rfl⟩, trivial⟩) hd dg (dth b1) ?_
           rw [curOf_add]; exact hR
end Mine
end
section
namespace Mine
open PySem PySem.W PySem.Calls
theorem objs_split {dn : List Gp} {i : Nat} {g : Gp} (h : dn[i]? = some g) : List.Perm (objs dn) (g.o :: (objs (dn.take i) ++ objs (dn.drop (i + 1)))) := by
 have hi : i < dn.length := by
   rcases Nat.lt_or_ge i dn.length with h1 | h1
   · exact h1
   · rw [List.getElem?_eq_none h1] at h; cases h
 have e : dn = dn.take i ++ g :: dn.drop (i + 1) := by
   rw [List.getElem?_eq_getElem hi] at h
   have := List.drop_eq_getElem_cons hi
   rw [Option.some.inj h] at this
   rw [← this, List.take_append_drop]
 have e2 : objs dn = objs (dn.take i) ++ g.o :: objs (dn.drop (i + 1)) := by
   conv => lhs; rw [e]
   simp [objs]
 rw [e2]
 exact List.perm_middle
theorem outs_drop {dn : List Gp} {i : Nat} {g : Gp} (h : dn[i]? = some g) : outs (dn.drop i) = (curOf g.ts).toList ++ outs (dn.drop (i + 1)) := by
 have hi : i < dn.length := by
   rcases Nat.lt_or_ge i dn.length with h1 | h1
   · exact h1
   · rw [List.getElem?_eq_none h1] at h; cases h
 have := List.drop_eq_getElem_cons hi
 rw [List.getElem?_eq_getElem hi] at h
 rw [Option.some.inj h] at this
 rw [this]; rfl
section
variable {w : World} {a b c : Bool} {s₀ : Shared} {it acc D G L F cG : Nat} {f : Obj} {dn : List Gp} {x : S0} {R : Result → Shared → Prop}
theorem bc_loop (dit : s₀.heap.get? it = none) (da : s₀.heap.get? acc = none) (dD : s₀.heap.get? D = none) (hd : ∀ g ∈ dn, GpOk g ∧ s₀.heap.get? g.a = none) (hl : dn.length ≤ 300) :
   ∀ (n i : Nat) (s : Shared) (p : Pos) (vs : List Value) (ca : Nat) (dc : Option (Nat × Value)) (ts : List (List Nat)), i + n = dn.length → IsStrs vs ts → vs.length ≤ i →
     HpW (W3 w a b c) s.heap ([(it, itO G i), (acc, listO vs ca), (D, gcO (W3 w a b c) dc)] ++ ((L, f) :: (G, listO (refs dn) cG) :: objs dn)) → Beh [] s₀ s →
     (∀ s' vs' ca' dc', HpW (W3 w a b c) s'.heap [(acc, listO vs' ca'), (D, gcO (W3 w a b c) dc'), (L, f)] → IsStrs vs' (ts ++ outs (dn.drop i)) → ((0 < n ∨ dc ≠ none) → ∃ k v, dc' = some (k, v)) → Beh [] s₀ s' → R (.ok .next) s') →
     wpCode (model prg (W3 w a b c)) (gCL it acc D L F x) R p s := by
 intro n
 induction n with
 | zero =>
   intro i s p vs ca dc ts hi hs hv H b0 K
   refine bc1 (Hp.part H) fun B s1 p1 H1 b1 => ?_
   have HJ := Hp.join H H1 b1 rfl
   have b01 : Beh [] s₀ s1 := Beh.drop (as := [it, acc, D]) (Beh.trans (Beh.widen b0 (by simp)) b1 (by simp)) fun z hz => .inr (by
     simp only [List.mem_cons, List.not_mem_nil, or_false] at hz
     rcases hz with h | h | h
     · rw [h]; exact dit
     · rw [h]; exact da
     · rw [h]; exact dD)
   have hx : (refs dn)[i]? = none := List.getElem?_eq_none (by unfold refs; rw [List.length_map]; omega)
   refine next_end rfl rfl (Hp.sub (List.Sublist.cons_cons _ (List.Sublist.cons _ (List.Sublist.cons _ (List.Sublist.cons _ (List.Sublist.cons_cons _ (List.nil_sublist _)))))) HJ) hx fun s2 e t h2 b2 de dt => ?_
   have h3 := Hp.join2 (A := [(it, itO G i)]) (C := [(acc, listO vs ca), (D, gcO (W3 w a b c) dc), (L, f)]) (Hp.part (A := [(it, itO G i), (acc, listO vs ca), (D, gcO (W3 w a b c) dc), (L, f)]) HJ) (Hp.sub (List.Sublist.cons _ (List.Sublist.cons _ (List.Sublist.refl _))) h2) b2 (fun z hz => .inl (by simpa using hz)) (fun z hz => .inr (by
     simp only [List.mem_cons, List.not_mem_nil, or_false] at hz
     rcases hz with rfl | rfl
     · exact dt
     · exact de))
   refine bcE (e := e) (t := t) (Hp.sub (List.Sublist.cons _ (List.Sublist.cons_cons _ (List.nil_sublist _))) h3) fun s3 h4 b4 => ?_
   have h5 := Hp.join2 (A := [(e, excNew "StopIteration" t)]) (C := [(acc, listO vs ca), (D, gcO (W3 w a b c) dc), (L, f)]) (Hp.sub (List.Sublist.cons _ (List.Sublist.refl _)) h3) h4 b4 (fun z hz => .inl (by simpa using hz)) (fun z hz => .inl (by rw [List.mem_singleton.mp hz]; simp))
   refine K s3 vs ca dc (Hp.sub (List.Sublist.cons _ (List.Sublist.refl _)) h5) ?_ ?_ ?_
   · rw [List.drop_eq_nil_of_le (by omega)]
     simpa [outs] using hs
   · rintro (h | h)
     · omega
     · cases dc with
       | none => exact absurd rfl h
       | some z => exact ⟨z.1, z.2, rfl⟩
   · refine Beh.drop (as := [it, e]) (Beh.trans (Beh.trans (Beh.widen b01 (by simp)) b2 (by simp)) b4 (by simp)) fun z hz => .inr ?_
     simp only [List.mem_cons, List.not_mem_nil, or_false] at hz
     rcases hz with h | h
     · rw [h]; exact dit
     · rw [h]; exact dead_nil b01 _ de
 | succ n ih =>
   intro i s p vs ca dc ts hi hs hv H b0 K
   have hlt : i < dn.length := by omega
   obtain ⟨g, hg⟩ : ∃ g, dn[i]? = some g := ⟨_, List.getElem?_eq_getElem hlt⟩
   have hm : g ∈ dn := List.mem_of_getElem? hg
   obtain ⟨og, dg⟩ := hd g hm
   have dth : ∀ {s s' : Shared}, Beh [] s₀ s → Beh [it, acc, D] s s' → Beh [] s₀ s' := fun b0 b1 => Beh.drop (as := [it, acc, D]) (Beh.trans (Beh.widen b0 (by simp)) b1 (by simp)) fun z hz => .inr (by
     simp only [List.mem_cons, List.not_mem_nil, or_false] at hz
     rcases hz with h | h | h
     · rw [h]; exact dit
     · rw [h]; exact da
     · rw [h]; exact dD)
   refine bc1 (Hp.part H) fun B s1 p1 H1 b1 => ?_
   have HJ := Hp.join H H1 b1 rfl
   have hx : (refs dn)[i]? = some (.ref g.a) := by unfold refs; rw [List.getElem?_map, hg]; rfl
   refine next_item rfl (Hp.sub (List.Sublist.cons_cons _ (List.Sublist.cons _ (List.Sublist.cons _ (List.Sublist.cons _ (List.Sublist.cons_cons _ (List.nil_sublist _)))))) HJ) hx fun s2 h2 b2 => ?_
   have HJ2 := Hp.join (A := [(it, itO G i)]) (C := (acc, listO vs ca) :: (D, gcO (W3 w a b c) dc) :: (L, f) :: (G, listO (refs dn) cG) :: objs dn) HJ (Hp.part (A := [(it, itO G (i + 1))]) h2) b2 rfl
   have HP : HpW (W3 w a b c) s2.heap ([(it, itO G (i + 1)), (acc, listO vs ca), (D, gcO (W3 w a b c) dc), (g.a, listO g.vs g.n)] ++ ((L, f) :: (G, listO (refs dn) cG) :: (objs (dn.take i) ++ objs (dn.drop (i + 1))))) := HJ2.perm (by
     refine List.Perm.cons _ (List.Perm.cons _ (List.Perm.cons _ ?_))
     exact (List.Perm.cons _ ((List.Perm.cons _ (objs_split hg)).trans (List.Perm.swap _ _ _))).trans (List.Perm.swap _ _ _))
   refine bc2 (Hp.part HP) fun B1 s3 p3 k hB1 H3 b3 => ?_
   have dB1 : s2.heap.get? (B1 + 4) = none := Heap.get?_none_of_le (by omega)
   have HJ3 := Hp.join2 HP H3 b3 (fun z hz => .inl (by simpa using hz)) (fun z hz => by
     simp only [List.mem_cons, List.not_mem_nil, or_false] at hz
     rcases hz with rfl | rfl | rfl | rfl | rfl
     · exact .inl (by simp)
     · exact .inl (by simp)
     · exact .inl (by simp)
     · exact .inl (by simp)
     · exact .inr dB1)
   have b03 : Beh [] s₀ s3 := by
     refine Beh.drop (as := [it, acc, D, g.a]) (Beh.trans (Beh.trans (Beh.widen (dth b0 b1) (by simp)) b2 (by simp)) b3 (by simp)) fun z hz => .inr ?_
     simp only [List.mem_cons, List.not_mem_nil, or_false] at hz
     rcases hz with h | h | h | h
     · rw [h]; exact dit
     · rw [h]; exact da
     · rw [h]; exact dD
     · rw [h]; exact dg
   have o1 := H3.own (g.a, listO g.vs g.n) (by simp)
   have o2 := H3.own (B1 + 4, listO [] 0) (by simp)
   have H3' : HpW (W3 w a b c) s3.heap ([(it, itO G (i + 1)), (acc, listO vs ca), (D, gcO (W3 w a b c) (some (k, .ref g.a)))] ++ ((g.a, listO g.vs g.n) :: (B1 + 4, listO [] 0) :: (L, f) :: (G, listO (refs dn) cG) :: (objs (dn.take i) ++ objs (dn.drop (i + 1))))) := HJ3
   have back : ∀ {s' : Shared} {vs' : List Value} {ca' : Nat} {dc' : Option (Nat × Value)}, HpW (W3 w a b c) s'.heap ([(it, itO G (i + 1)), (acc, listO vs' ca'), (D, gcO (W3 w a b c) dc')] ++ ((g.a, listO g.vs g.n) :: (B1 + 4, listO [] 0) :: (L, f) :: (G, listO (refs dn) cG) :: (objs (dn.take i) ++ objs (dn.drop (i + 1))))) →
       HpW (W3 w a b c) s'.heap ([(it, itO G (i + 1)), (acc, listO vs' ca'), (D, gcO (W3 w a b c) dc')] ++ ((L, f) :: (G, listO (refs dn) cG) :: objs dn)) := fun h => by
     refine (Hp.sub (List.Sublist.cons_cons _ (List.Sublist.cons_cons _ (List.Sublist.cons_cons _ (List.Sublist.cons_cons _ (List.Sublist.cons _ (List.Sublist.refl _)))))) h).perm ?_
     refine List.Perm.cons _ (List.Perm.cons _ (List.Perm.cons _ ?_))
     exact (List.Perm.swap _ _ _).trans (List.Perm.cons _ ((List.Perm.swap _ _ _).trans (List.Perm.cons _ (objs_split hg).symm)))
   cases ht : g.ts with
   | nil =>
     have hvn : g.vs = [] := by
       have := og.iss.length
       rw [ht] at this
       exact List.length_eq_zero_iff.mp this
     refine ne_same (vs := []) (us := []) (ts := []) rfl (by rw [hvn] at o1; exact o1) o2 trivial trivial ?_
     refine bcN (Hp.part H3') fun s4 p4 h4 b4 => ?_
     have H4 := Hp.join H3' h4 b4 rfl
     refine ih (i + 1) s4 p4 vs ca _ ts (by omega) hs (by omega) (back H4) (dth b03 b4) fun s' vs' ca' dc' g1 g2 g3 g4 => ?_
     refine K s' vs' ca' dc' g1 ?_ (fun _ => g3 (.inr (by simp))) g4
     rw [outs_drop hg, ht]
     simpa [curOf] using g2
   | cons t0 tr =>
     have hvl : g.vs.length ≠ 0 := by rw [og.iss.length, ht]; simp
     refine ne_len rfl o1 o2 (by simpa using hvl) ?_
     refine bc3 (Hp.part H3') fun B2 s4 p4 h4 b4 => ?_
     have H4 := Hp.join H3' h4 b4 rfl
     have o4 := H4.own (g.a, listO g.vs g.n) (by simp)
     have hfl := og.flat
     refine join_call rfl o4 og.iss (by omega) fun s5 t5 e5 b5 => ?_
     refine bc4 (fits_of (by omega)) (toks_beh e5 b5 h4) fun s6 p6 h6 b6 => ?_
     have H6 := Hp.join (toks_beh e5 b5 H4) h6 b6 rfl
     refine ih (i + 1) s6 p6 (vs ++ [.str ⟨⟨g.ts.flatten⟩⟩ t5]) _ _ (ts ++ [g.ts.flatten]) (by omega) (hs.append (ws := [.str ⟨⟨g.ts.flatten⟩⟩ t5]) (us := [g.ts.flatten]) ⟨⟨_, rfl⟩, trivial⟩) (by rw [List.length_append, List.length_singleton]; omega) (back H6) (dth (Beh.trans (dth b03 b4) b5 (by simp)) b6) fun s' vs' ca' dc' g1 g2 g3 g4 => ?_
     refine K s' vs' ca' dc' g1 ?_ (fun _ => g3 (.inr (by simp))) g4
     rw [outs_drop hg]
     rw [ht] at g2 ⊢
     simpa [curOf] using g2
end
section
variable {w : World} {a b c rm : Bool} {s : Shared} {F tN tV : Nat} {n v : List Nat} {x : S0} {p : Pos} {R : Result → Shared → Prop}
theorem ba_spec (H : HpW (W3 w a b c) s.heap []) (hn : n.length ≤ 50) (hv : v.length ≤ 50) (hR : DuK (W3 w a b c) R s (bareM rm .out (some (n ++ [61])) v)) :
   wpCode (model prg (W3 w a b c)) (gBA ⟨⟨n⟩⟩ tN ⟨⟨v⟩⟩ tV rm F x) R p s := by
 refine ba1 H fun B s1 p1 hB H1 b1 => ?_
 have dB : s.heap.get? B = none := Heap.get?_none_of_le (Nat.le_of_eq hB)
 refine add_call rfl (show n.length + 1 ≤ 1000 by omega) fun s2 t2 e2 b2 => ?_
 have b02 : Beh [] s s2 := Beh.trans b1 b2 (by simp)
 refine ba2 (toks_beh e2 b2 H1) fun B1 s3 p3 hB1 H3 b3 => ?_
 have d1 : s.heap.get? (B1 + 1) = none := dead_nil b02 _ (Heap.get?_none_of_le (by omega))
 have d2 : s.heap.get? (B1 + 2) = none := dead_nil b02 _ (Heap.get?_none_of_le (by omega))
 have b03 : Beh [] s s3 := Beh.drop (as := [B]) (Beh.trans (Beh.widen b02 (by simp)) b3 (by simp)) fun z hz => .inr (by rw [List.mem_singleton.mp hz]; exact dB)
 have H3' : HpW (W3 w a b c) s3.heap ([(B, baFr (W3 w a b c) ⟨⟨⟨n⟩⟩, tN, ⟨⟨v⟩⟩, tV, s.toks, s.toks + 1, s.toks + 2, s2.toks, s2.toks + 1⟩ rm (B1 + 2) (.str ⟨⟨v⟩⟩ tV) .a), (B1 + 2, listO (refs [] ++ [.ref (B1 + 1)]) 0), (B1 + 1, listO [.str ⟨⟨n ++ [61]⟩⟩ t2] 0)] ++ objs []) := H3.perm (List.Perm.cons _ (List.Perm.swap _ _ _))
 refine ba_loop dB d2 v.length s3 p3 v tV .a [] ⟨B1 + 1, [.str ⟨⟨n ++ [61]⟩⟩ t2], 0, [n ++ [61]]⟩ 0 (Nat.le_refl _) (by simp; omega) (by simp; omega) (by simp; omega) H3' ⟨⟨_, rfl⟩, trivial⟩ (by simp) d1 b03 ?_
 have ec : curOf [n ++ [61]] = some (n ++ [61]) := by simp [curOf]
 show BaOut (W3 w a b c) _ s B (B1 + 2) _ rm (outs []) (bareM rm .out (curOf [n ++ [61]]) v)
 rw [ec]
 cases hb : bareM rm .out (some (n ++ [61])) v with
 | none =>
   rw [hb] at hR
   intro s4 tk h4 b4
   exact ba5 h4 fun s5 h5 b5 => hR s5 tk h5 (Beh.trans b4 b5 (by simp))
 | some us =>
   rw [hb] at hR
   intro s4 dn r hi cG h4 hd hl hne b4 ho
   refine ba3 (Hp.part h4) fun B2 s5 p5 hB2 h5 b5 => ?_
   have d4 : ∀ z, B2 + 2 ≤ z → s4.heap.get? z = none := fun z hz => Heap.get?_none_of_le (by omega)
   have HJ := Hp.join2 h4 h5 b5 (fun z hz => .inl (by simpa using hz)) (fun z hz => by
     simp only [List.mem_cons, List.not_mem_nil, or_false] at hz
     rcases hz with rfl | rfl | rfl | rfl | rfl
     · exact .inl (by simp)
     · exact .inl (by simp)
     · exact .inr (d4 _ (Nat.le_refl _))
     · exact .inr (d4 _ (by omega))
     · exact .inr (d4 _ (by omega)))
   have b05 : Beh [] s s5 := Beh.drop (as := [B, B1 + 2]) (Beh.trans (Beh.widen b4 (by simp)) b5 (by simp)) fun z hz => .inr (by
     simp only [List.mem_cons, List.not_mem_nil, or_false] at hz
     rcases hz with h | h
     · rw [h]; exact dB
     · rw [h]; exact d2)
   have d0 : ∀ z, B2 + 2 ≤ z → s.heap.get? z = none := fun z hz => dead_nil b4 _ (d4 z hz)
   refine bcS (Hp.sub (List.Sublist.cons _ (List.Sublist.cons _ (List.Sublist.refl _))) h5) fun s6 p6 h6 b6 => ?_
   have HJ' : HpW (W3 w a b c) s5.heap ([(B2 + 2, itO (B1 + 2) 0), (B2 + 3, listO [] 0), (B2 + 4, gcO (W3 w a b c) none)] ++ ((B, baFr (W3 w a b c) ⟨⟨⟨n⟩⟩, tN, ⟨⟨v⟩⟩, tV, s.toks, s.toks + 1, s.toks + 2, s2.toks, s2.toks + 1⟩ rm (B1 + 2) r hi) :: (B1 + 2, listO (refs dn) cG) :: objs dn)) := HJ.perm (by
     have := (List.perm_append_comm (l₁ := [(B, baFr (W3 w a b c) ⟨⟨⟨n⟩⟩, tN, ⟨⟨v⟩⟩, tV, s.toks, s.toks + 1, s.toks + 2, s2.toks, s2.toks + 1⟩ rm (B1 + 2) r hi), (B1 + 2, listO (refs dn) cG)]) (l₂ := [(B2 + 2, itO (B1 + 2) 0), (B2 + 3, listO [] 0), (B2 + 4, gcO (W3 w a b c) none)])).append_right (objs dn)
     exact this)
   have H6 := Hp.join HJ' h6 b6 rfl
   have b06 : Beh [] s s6 := Beh.drop (as := [B2 + 2, B2 + 3, B2 + 4]) (Beh.trans (Beh.widen b05 (by simp)) b6 (by simp)) fun z hz => .inr (by
     simp only [List.mem_cons, List.not_mem_nil, or_false] at hz
     rcases hz with h | h | h <;> (rw [h]; exact d0 _ (by omega)))
   refine bc_loop (d0 _ (by omega)) (d0 _ (by omega)) (d0 _ (by omega)) hd hl dn.length 0 s6 p6 [] 0 none [] (by simp) trivial (Nat.le_refl _) H6 b06 fun s7 vs' ca' dc' h7 iv hk b7 => ?_
   obtain ⟨k, z, rfl⟩ := hk (.inl hne)
   refine ba4 (h7.perm ((List.Perm.cons _ (List.Perm.swap _ _ _)).trans (List.Perm.swap _ _ _))) fun s8 h8 b8 => ?_
   refine hR s8 (B2 + 3) vs' ca' ?_ h8 ?_ (d0 _ (by omega))
   · rw [List.drop_zero, ho] at iv
     simpa [outs] using iv
   · refine Beh.drop (as := [B, B2 + 3, B2 + 4]) (Beh.trans (Beh.widen b7 (by simp)) b8 (by simp)) fun z hz => .inr (by
       simp only [List.mem_cons, List.not_mem_nil, or_false] at hz
       rcases hz with h | h | h
       · rw [h]; exact dB
       · rw [h]; exact d0 _ (by omega)
       · rw [h]; exact d0 _ (by omega))
theorem du_full {mk : Bool} {tm : Nat} (H : HpW (W3 w a b c) s.heap []) (hn : n.length ≤ 50) (hv : v.length ≤ 50) (hR : DuK (W3 w a b c) R s (dueF (bareM rm .out (some (n ++ [61])) v) n v mk)) :
   wpCode (model prg (W3 w a b c)) (gDU ⟨⟨n⟩⟩ tN ⟨⟨v⟩⟩ tV (if mk then 1 else 0) tm rm x) R p s :=
 du_spec _ mk H (by omega) (by omega) (fun B s1 p1 R1 h1 hk => ba_spec h1 hn hv hk) hR
end
end Mine
end
section
namespace Mine
open PySem PySem.W PySem.Calls
section
variable {w : World} {Γ : Ctx} {p : Pos} {s : Shared} {R : Result → Shared → Prop}
theorem name_cut {P : List Nat} {t sl k : Nat} (hΓ : Γ.code = .call (.builtin "str.__getitem__") ⟨[.str ⟨⟨P⟩⟩ t, .ref sl], []⟩) (hs : s.heap.get? sl = some (slO .none (.int 2 k) .none)) (hP : P.length ≤ 12)
   (hR : ∀ s' N tN, N.length ≤ 12 → s'.heap = s.heap → Beh [] s s' → R (.ok (.ret (.str ⟨⟨N⟩⟩ tN))) s') : wpCode (model prg w) Γ R p s := by
 refine slot_code hΓ F.slot_str_getitem (typeIs_str ..) F.entry_str_getitem (F.args_str_getitem_2 _ _) fun A => ?_
 refine meets_str_getitem_slice ⟨⟨P⟩⟩ t sl none (some (2, k)) none rfl prg w A R s ⟨⟨_, hs, rfl, rfl⟩, ?_⟩
 have lz : (⟨⟨P⟩⟩ : Str).length = P.length := rfl
 unfold sliceMade
 split
 · exact hR s P t hP rfl (Beh.refl _ _)
 · have hle : ((slicePicked ⟨⟨P⟩⟩ none (some (2, k)) none).filterMap ((⟨⟨P⟩⟩ : Str).cps[·]?)).length ≤ P.length :=
     Nat.le_trans (List.length_filterMap_le _ _) (sliceIndices_le none (some 2) P.length)
   have sz : 1000 ≤ sizeLine := by decide
   exact ⟨show ((slicePicked ⟨⟨P⟩⟩ none (some (2, k)) none).filterMap ((⟨⟨P⟩⟩ : Str).cps[·]?)).length ≤ sizeLine by omega, hR { s with toks := s.toks + 1 } _ s.toks (by omega) rfl ⟨fun _ _ h _ => h, rfl, rfl, rfl⟩⟩
theorem list_plus {l b n n2 : Nat} {vs us : List Value} (hΓ : Γ.code = .call (.builtin "list.__add__") ⟨[.ref l, .ref b], []⟩) (H : HpW w s.heap [(l, listO vs n), (b, listO us n2)]) (hl : vs.length + us.length ≤ 1000)
   (hR : ∀ s' u, HpW w s'.heap [(u, listO (vs ++ us) 0)] → Beh [] s s' → s.heap.get? u = none → R (.ok (.ret (.ref u))) s') : wpCode (model prg w) Γ R p s := by
 have h1 := H.own (l, listO vs n) (by simp)
 have h2 := H.own (b, listO us n2) (by simp)
 have sz : 1000 ≤ sizeLine := by decide
 refine slot_code hΓ F.slot_list_add ⟨_, h1, rfl⟩ F.entry_list_add (F.args_list_add_2 _ _) fun A => ?_
 refine PyProof.Rows.list_addW l b ⟨vs⟩ ⟨us⟩ n n2 none none #[] #[] (show vs.length + us.length ≤ sizeLine by omega) prg w A R s ⟨h1, h2, ?_⟩
 have e : ((⟨vs⟩ : Array Value) ++ (⟨us⟩ : Array Value)) = ⟨vs ++ us⟩ := by
   apply Array.ext'
   simp
 rw [e]
 exact hR { s with heap := s.heap.push (listO (vs ++ us) 0) } s.heap.objs.size (Hp.push (L := []) H.nil rfl) (beh_push _ _) (Heap.get?_none_of_le (Nat.le_refl _))
end
end Mine
end
section
namespace Mine
open PySem PySem.W
noncomputable def lawDef : Dft := topDef 33
noncomputable def envLW (L : Nat) : Env := { scope := lawDef.2.2, locals := L, globals := 3, cells := [], qual := ⟨#[108,97,119,46,60,108,111,99,97,108,115,62,46]⟩, func := some 796, code := .ref 795, frame := some L, builtins := 0 }
noncomputable def lwV : Expr × List Stmt × List Stmt := forOf (nth lawDef.2.1 2)
noncomputable def lwM : Expr × List Stmt × List Stmt := forOf (nth lwV.2.1 0)
noncomputable def lwR : Expr × List Stmt × List Stmt := forOf (nth lwM.2.1 1)
noncomputable abbrev cLW (sc : Nat) : Code := .call (.ref 796) ⟨[.ref sc], []⟩
noncomputable abbrev gLW (sc : Nat) (q : Pos) : Ctx := ⟨cLW sc, none, none, [(.builtin "claim.caller" {}, q)], none⟩
noncomputable def lawF (L : Nat) (p : Pos) : Fm := ⟨lawDef.2.1, envLW L, p⟩
noncomputable def vL (it L : Nat) (p : Pos) : Lp := ⟨lwV.1,.ref it, lwV.2.1, lwV.2.2, envLW L, p⟩
noncomputable def mL (it L : Nat) (p : Pos) : Lp := ⟨lwM.1,.ref it, lwM.2.1, lwM.2.2, envLW L, p⟩
noncomputable def rL (it L : Nat) (p : Pos) : Lp := ⟨lwR.1,.ref it, lwR.2.1, lwR.2.2, envLW L, p⟩
noncomputable def cV (it L : Nat) : Code := .forLoop lwV.1 (.ref it) lwV.2.1 lwV.2.2 (envLW L)
noncomputable def cM (it L : Nat) : Code := .forLoop lwM.1 (.ref it) lwM.2.1 lwM.2.2 (envLW L)
noncomputable def cR (it L : Nat) : Code := .forLoop lwR.1 (.ref it) lwR.2.1 lwR.2.2 (envLW L)
noncomputable def pV0 : Pos := ⟨796,17,796,34⟩
noncomputable def pV1 : Pos := ⟨797,21,797,27⟩
noncomputable def pM1 : Pos := ⟨799,26,799,39⟩
noncomputable def gV (it L : Nat) (q : Pos) : Ctx := ⟨cV it L, none, none, [(lawF L pV0).c, (.builtin "claim.caller" {}, q)], none⟩
noncomputable def gM (mt it L : Nat) (q : Pos) : Ctx := ⟨cM mt L, none, none, [(vL it L pV1).f, (lawF L pV0).c, (.builtin "claim.caller" {}, q)], none⟩
noncomputable def gR (rt mt it L : Nat) (q : Pos) : Ctx := ⟨cR rt L, none, none, [(mL mt L pM1).f, (vL it L pV1).f, (lawF L pV0).c, (.builtin "claim.caller" {}, q)], none⟩
noncomputable def xM (mt it L : Nat) (q p : Pos) : SM := ⟨lawF L pV0, vL it L pV1, mL mt L p, q⟩
noncomputable def xR (rt mt it L : Nat) (q p : Pos) : S0 := ⟨lawF L pV0, vL it L pV1, mL mt L pM1, rL rt L p, q⟩
structure LwK where
 sc : Nat
 u : Nat
 N : Str
 tN : Nat
 k0 : Nat
 k1 : Nat
 k2 : Nat
inductive LS where
 | a
 | b (k3 : Nat) (V : Str) (tV : Nat)
 | c (k3 : Nat) (V : Str) (tV : Nat) (k4 : Nat) (m : Int) (tm : Nat)
 | d (k3 : Nat) (V : Str) (tV : Nat) (k4 : Nat) (m : Int) (tm : Nat) (k5 : Nat) (X : Str) (tX : Nat)
 | e (k3 : Nat) (V : Str) (tV : Nat) (k4 : Nat) (m : Int) (tm : Nat) (k5 : Nat) (X : Str) (tX : Nat) (k6 : Nat) (r : Bool)
noncomputable def lwF1 (w : World) (sc k0 : Nat) : Obj := ⟨.type "frame", none, .dict #[⟨hs w #[115,99,114,105,112,116], .str ⟨#[115,99,114,105,112,116]⟩ k0,.ref sc⟩] 1, #[]⟩
noncomputable def lwF2 (w : World) (sc k0 u k1 : Nat) : Obj := ⟨.type "frame", none, .dict #[⟨hs w #[115,99,114,105,112,116], .str ⟨#[115,99,114,105,112,116]⟩ k0,.ref sc⟩,⟨hs w #[112,105,101,99,101,115], .str ⟨#[112,105,101,99,101,115]⟩ k1,.ref u⟩] 2, #[]⟩
noncomputable def lawFr (w : World) (K : LwK) (sl : Array (Option Value)) : LS → Obj
 | .a => ⟨.type "frame", none, .dict #[⟨hs w #[115,99,114,105,112,116], .str ⟨#[115,99,114,105,112,116]⟩ K.k0,.ref K.sc⟩,⟨hs w #[112,105,101,99,101,115], .str ⟨#[112,105,101,99,101,115]⟩ K.k1,.ref K.u⟩,⟨hs w #[110,97,109,101], .str ⟨#[110,97,109,101]⟩ K.k2,.str K.N K.tN⟩] 3, sl⟩
 | .b k3 V tV => ⟨.type "frame", none, .dict #[⟨hs w #[115,99,114,105,112,116], .str ⟨#[115,99,114,105,112,116]⟩ K.k0,.ref K.sc⟩,⟨hs w #[112,105,101,99,101,115], .str ⟨#[112,105,101,99,101,115]⟩ K.k1,.ref K.u⟩,⟨hs w #[110,97,109,101], .str ⟨#[110,97,109,101]⟩ K.k2,.str K.N K.tN⟩,⟨hs w #[118,97,108,117,101], .str ⟨#[118,97,108,117,101]⟩ k3,.str V tV⟩] 4, sl⟩
 | .c k3 V tV k4 m tm => ⟨.type "frame", none, .dict #[⟨hs w #[115,99,114,105,112,116], .str ⟨#[115,99,114,105,112,116]⟩ K.k0,.ref K.sc⟩,⟨hs w #[112,105,101,99,101,115], .str ⟨#[112,105,101,99,101,115]⟩ K.k1,.ref K.u⟩,⟨hs w #[110,97,109,101], .str ⟨#[110,97,109,101]⟩ K.k2,.str K.N K.tN⟩,⟨hs w #[118,97,108,117,101], .str ⟨#[118,97,108,117,101]⟩ k3,.str V tV⟩,⟨hs w #[109,97,114,107,115], .str ⟨#[109,97,114,107,115]⟩ k4,.int m tm⟩] 5, sl⟩
 | .d k3 V tV k4 m tm k5 X tX => ⟨.type "frame", none, .dict #[⟨hs w #[115,99,114,105,112,116], .str ⟨#[115,99,114,105,112,116]⟩ K.k0,.ref K.sc⟩,⟨hs w #[112,105,101,99,101,115], .str ⟨#[112,105,101,99,101,115]⟩ K.k1,.ref K.u⟩,⟨hs w #[110,97,109,101], .str ⟨#[110,97,109,101]⟩ K.k2,.str K.N K.tN⟩,⟨hs w #[118,97,108,117,101], .str ⟨#[118,97,108,117,101]⟩ k3,.str V tV⟩,⟨hs w #[109,97,114,107,115], .str ⟨#[109,97,114,107,115]⟩ k4,.int m tm⟩,⟨hs w #[119,114,105,116,116,101,110], .str ⟨#[119,114,105,116,116,101,110]⟩ k5,.str X tX⟩] 6, sl⟩
 | .e k3 V tV k4 m tm k5 X tX k6 r => ⟨.type "frame", none, .dict #[⟨hs w #[115,99,114,105,112,116], .str ⟨#[115,99,114,105,112,116]⟩ K.k0,.ref K.sc⟩,⟨hs w #[112,105,101,99,101,115], .str ⟨#[112,105,101,99,101,115]⟩ K.k1,.ref K.u⟩,⟨hs w #[110,97,109,101], .str ⟨#[110,97,109,101]⟩ K.k2,.str K.N K.tN⟩,⟨hs w #[118,97,108,117,101], .str ⟨#[118,97,108,117,101]⟩ k3,.str V tV⟩,⟨hs w #[109,97,114,107,115], .str ⟨#[109,97,114,107,115]⟩ k4,.int m tm⟩,⟨hs w #[119,114,105,116,116,101,110], .str ⟨#[119,114,105,116,116,101,110]⟩ k5,.str X tX⟩,⟨hs w #[114,101,109,97,114,107], .str ⟨#[114,101,109,97,114,107]⟩ k6,.bool r⟩] 7, sl⟩
noncomputable def tupM (t1 t2 : Nat) : Obj := ⟨.type "tuple", none, .seq #[.int 1 t1,.int 0 t2] 0, #[]⟩
noncomputable def tupR : Obj := ⟨.type "tuple", none, .seq #[.bool false, .bool true] 0, #[]⟩
noncomputable def tuI (tu i : Nat) : Obj := ⟨.type "tuple_iterator", none, .fields #[.ref tu, .int i 0], #[]⟩
noncomputable def rL1 (w : World) (s : Shared) (B sc : Nat) (vs : List Value) (cc : Nat) (q p : Pos) : Option Out := rn w s B [(sc, listO vs cc)] 18 (gLW sc q) p [] (den (cLW sc)) 137439485952 []
noncomputable def rL2 (w : World) (s : Shared) (B sc : Nat) (vs : List Value) (cc : Nat) (q p : Pos) (s1 : Shared) (B1 u : Nat) (ps : List Value) (cu : Nat) (Y : Str) (tY : Nat) : Option Out := rnv w [(ps.getD (idx 0 ps.length) .none, .str Y tY)] s1 B1 [(B + 1, lwF1 w sc s.toks), (u, listO ps cu)] 20 (cfΓ (rL1 w s B sc vs cc q p)) (cfp (rL1 w s B sc vs cc q p)) (cfκ (rL1 w s B sc vs cc q p)) (ansT (rL1 w s B sc vs cc q p) (.ok (.ret (.ref u)))) 11409614704705 [(idxOk 0 ps.length, true)]
noncomputable def rL3 (w : World) (s : Shared) (B sc : Nat) (vs : List Value) (cc : Nat) (q p : Pos) (s1 : Shared) (B1 u : Nat) (ps : List Value) (cu : Nat) (Y : Str) (tY : Nat) (s2 : Shared) (B2 : Nat) (N : Str) (tN : Nat) : Option Out := rn w s2 B2 [(B + 1, lwF2 w sc s.toks u s1.toks), (u, listO ps cu)] 18 (cfΓ (rL2 w s B sc vs cc q p s1 B1 u ps cu Y tY)) (cfp (rL2 w s B sc vs cc q p s1 B1 u ps cu Y tY)) (cfκ (rL2 w s B sc vs cc q p s1 B1 u ps cu Y tY)) (ansT (rL2 w s B sc vs cc q p s1 B1 u ps cu Y tY) (.ok (.ret (.str N tN)))) 2198343745 []
noncomputable def rL4 (w : World) (s : Shared) (B sc : Nat) (vs : List Value) (cc : Nat) (q p : Pos) (s1 : Shared) (B1 u : Nat) (ps : List Value) (cu : Nat) (Y : Str) (tY : Nat) (s2 : Shared) (B2 : Nat) (N : Str) (tN : Nat) (s3 : Shared) (B3 l : Nat) (ws : List Value) : Option Out := rn w s3 B3 [(B + 1, lawFr w ⟨sc, u, N, tN, s.toks, s1.toks, s2.toks⟩ #[] .a), (l, listO ws 0)] 11 (cfΓ (rL3 w s B sc vs cc q p s1 B1 u ps cu Y tY s2 B2 N tN)) (cfp (rL3 w s B sc vs cc q p s1 B1 u ps cu Y tY s2 B2 N tN)) (cfκ (rL3 w s B sc vs cc q p s1 B1 u ps cu Y tY s2 B2 N tN)) (ansT (rL3 w s B sc vs cc q p s1 B1 u ps cu Y tY s2 B2 N tN) (.ok (.ret (.ref l)))) 50856066 []
noncomputable def rV1 (w : World) (s : Shared) (B L : Nat) (K : LwK) (sl : Array (Option Value)) (st : LS) (it l i : Nat) (q p : Pos) : Option Out := rn w s B [(L, lawFr w K sl st), (it, itO l i)] 2 (gV it L q) p [] (den (cV it L)) 2 []
noncomputable def rV2 (w : World) (s : Shared) (B L : Nat) (K : LwK) (sl : Array (Option Value)) (st : LS) (it l i : Nat) (q p : Pos) (s1 : Shared) (B1 : Nat) (V : Str) (tV : Nat) : Option Out := rn w s1 B1 [(L, lawFr w K sl st), (it, itO l (i + 1))] 22 (cfΓ (rV1 w s B L K sl st it l i q p)) (cfp (rV1 w s B L K sl st it l i q p)) (cfκ (rV1 w s B L K sl st it l i q p)) (ansT (rV1 w s B L K sl st it l i q p) (.ok (.ret (.str V tV)))) 278099931201 []
noncomputable def rN1 (w : World) (s : Shared) (B L : Nat) (K : LwK) (sl : Array (Option Value)) (st : LS) (mt it tu i t1 t2 : Nat) (q p : Pos) : Option Out := rn w s B [(L, lawFr w K sl st), (mt, tuI tu i), (tu, tupM t1 t2)] 27 (gM mt it L q) p [] (den (cM mt L)) 4722384787679918694402 []
noncomputable def rN2 (w : World) (s : Shared) (B L : Nat) (K : LwK) (sl : Array (Option Value)) (st : LS) (mt it tu i t1 t2 : Nat) (q p : Pos) (s1 : Shared) (B1 : Nat) (st1 : LS) (Q : Str) (tQ : Nat) : Option Out := rn w s1 B1 [(L, lawFr w K sl st1)] 7 (cfΓ (rN1 w s B L K sl st mt it tu i t1 t2 q p)) (cfp (rN1 w s B L K sl st mt it tu i t1 t2 q p)) (cfκ (rN1 w s B L K sl st mt it tu i t1 t2 q p)) (ansT (rN1 w s B L K sl st mt it tu i t1 t2 q p) (.ok (.ret (.str Q tQ)))) 65 []
noncomputable def rN3 (w : World) (s : Shared) (B L : Nat) (K : LwK) (sl : Array (Option Value)) (st : LS) (mt it tu i t1 t2 : Nat) (q p : Pos) (s1 : Shared) (B1 : Nat) (st1 : LS) (Q : Str) (tQ : Nat) (s2 : Shared) (B2 : Nat) (X : Str) (tX : Nat) : Option Out := rn w s2 B2 [(L, lawFr w K sl st1)] 21 (cfΓ (rN2 w s B L K sl st mt it tu i t1 t2 q p s1 B1 st1 Q tQ)) (cfp (rN2 w s B L K sl st mt it tu i t1 t2 q p s1 B1 st1 Q tQ)) (cfκ (rN2 w s B L K sl st mt it tu i t1 t2 q p s1 B1 st1 Q tQ)) (ansT (rN2 w s B L K sl st mt it tu i t1 t2 q p s1 B1 st1 Q tQ) (.ok (.ret (.str X tX)))) 208306446401 []
noncomputable def rR1 (w : World) (s : Shared) (B L : Nat) (K : LwK) (sl : Array (Option Value)) (st : LS) (rt mt it tu i : Nat) (q p : Pos) : Option Out := rn w s B [(L, lawFr w K sl st), (rt, tuI tu i), (tu, tupR)] 27 (gR rt mt it L q) p [] (den (cR rt L)) 4796171763974756900866 []
noncomputable def rR2 (w : World) (s : Shared) (B L : Nat) (K : LwK) (sl : Array (Option Value)) (st : LS) (rt mt it tu i : Nat) (q p : Pos) (s1 : Shared) (B1 : Nat) (sl1 : Array (Option Value)) (st1 : LS) (v1 : Value) : Option Out := rn w s1 B1 [(L, lawFr w K sl1 st1)] 13 (cfΓ (rR1 w s B L K sl st rt mt it tu i q p)) (cfp (rR1 w s B L K sl st rt mt it tu i q p)) (cfκ (rR1 w s B L K sl st rt mt it tu i q p)) (ansT (rR1 w s B L K sl st rt mt it tu i q p) (.ok (.ret v1))) 17043520 []
noncomputable def rR3 (w : World) (s : Shared) (B L : Nat) (K : LwK) (sl : Array (Option Value)) (st : LS) (rt mt it tu i : Nat) (q p : Pos) (s1 : Shared) (B1 : Nat) (sl1 : Array (Option Value)) (st1 : LS) (u1 : Nat) (us : List Value) (c1 : Nat) (s2 : Shared) (B2 u2 : Nat) (ws : List Value) (c2 : Nat) : Option Out := rn w s2 B2 [(u1, listO us c1), (u2, listO ws c2)] 7 (cfΓ (rR2 w s B L K sl st rt mt it tu i q p s1 B1 sl1 st1 (.ref u1))) (cfp (rR2 w s B L K sl st rt mt it tu i q p s1 B1 sl1 st1 (.ref u1))) (cfκ (rR2 w s B L K sl st rt mt it tu i q p s1 B1 sl1 st1 (.ref u1))) (ansT (rR2 w s B L K sl st rt mt it tu i q p s1 B1 sl1 st1 (.ref u1)) (.ok (.ret (.ref u2)))) 4225 []
section
variable {w : World} {a b c : Bool} {s s1 s2 s3 s4 s5 : Shared} {B B1 B2 B3 sc L u it l i mt rt tu t1 t2 cc cu tN tY k3 k4 k5 k6 tV tm tX t4 u1 u2 c1 c2 e t : Nat} {N V X Y Q : Str} {tQ : Nat} {m : Int} {r : Bool} {K : LwK} {st st1 : LS} {sl sl1 : Array (Option Value)} {vs ps ws us : List Value} {v1 : Value} {q p : Pos} {R : Result → Shared → Prop}
theorem la1 (H : HpW (W3 w a b c) s.heap [(sc, listO vs cc)])
   (G : ∀ B s' p', s.heap.objs.size = B + 1 → HpW (W3 w a b c) s'.heap [(sc, listO vs cc), (B + 1, lwF1 (W3 w a b c) sc s.toks)] → Beh [sc] s s' → wpCode (model prg (W3 w a b c)) (gLP sc (lawF (B + 1) ⟨794,13,794,32⟩) q) (fun z s'' => Mn (model prg (W3 w a b c)) R (cfΓ (rL1 (W3 w a b c) s B sc vs cc q p)) (cfp (rL1 (W3 w a b c) s B sc vs cc q p)) (cfκ (rL1 (W3 w a b c) s B sc vs cc q p)) (ansT (rL1 (W3 w a b c) s B sc vs cc q p) z) s'') p' s') :
   wpCode (model prg (W3 w a b c)) (gLW sc q) R p s := by
 refine code_mn (c := cLW sc) rfl (sn_call H 18 137439485952 [] [0,1] (fun B => [listO vs cc, lwF1 (W3 w a b c) sc s.toks]) (fun B => gLP sc (lawF (B + 1) ⟨794,13,794,32⟩) q) true dsN rfl (by decide) ?_ ?_)
 · cases a <;> (intro B; kernel_rfl)
 · exact fun B s' p' hB h1 b1 => G B s' p' hB h1 b1
theorem la2 (hg : ps.getD (idx 0 ps.length) .none = .str Y tY) (hx : idxOk 0 ps.length = true) (H : HpW (W3 w a b c) s1.heap [(B + 1, lwF1 (W3 w a b c) sc s.toks), (u, listO ps cu)])
   (G : ∀ B1 s' p', s1.heap.objs.size = B1 + 2 → HpW (W3 w a b c) s'.heap [(B + 1, lwF2 (W3 w a b c) sc s.toks u s1.toks), (u, listO ps cu), (B1 + 2, slO .none (.int 2 (s1.toks + 2)) .none)] → Beh [B + 1, u] s1 s' → wpCode (model prg (W3 w a b c)) ⟨.call (.builtin "str.__getitem__") ⟨[.str Y tY, .ref (B1 + 2)], []⟩, none, none, [(lawF (B + 1) ⟨795,11,795,24⟩).c, (.builtin "claim.caller" {}, q)], none⟩ (fun z s'' => Mn (model prg (W3 w a b c)) R (cfΓ (rL2 (W3 w a b c) s B sc vs cc q p s1 B1 u ps cu Y tY)) (cfp (rL2 (W3 w a b c) s B sc vs cc q p s1 B1 u ps cu Y tY)) (cfκ (rL2 (W3 w a b c) s B sc vs cc q p s1 B1 u ps cu Y tY)) (ansT (rL2 (W3 w a b c) s B sc vs cc q p s1 B1 u ps cu Y tY) z) s'') p' s') :
   Mn (model prg (W3 w a b c)) R (cfΓ (rL1 (W3 w a b c) s B sc vs cc q p)) (cfp (rL1 (W3 w a b c) s B sc vs cc q p)) (cfκ (rL1 (W3 w a b c) s B sc vs cc q p)) (ansT (rL1 (W3 w a b c) s B sc vs cc q p) (.ok (.ret (.ref u)))) s1 := by
 refine sv_call (vs := [(ps.getD (idx 0 ps.length) .none, .str Y tY)]) H 20 11409614704705 [(idxOk 0 ps.length, true)] [0,1,2] (fun B1 => [lwF2 (W3 w a b c) sc s.toks u s1.toks, listO ps cu, slO .none (.int 2 (s1.toks + 2)) .none]) (fun B1 => ⟨.call (.builtin "str.__getitem__") ⟨[.str Y tY, .ref (B1 + 2)], []⟩, none, none, [(lawF (B + 1) ⟨795,11,795,24⟩).c, (.builtin "claim.caller" {}, q)], none⟩) true (dsC hx dsN) rfl (by decide) ?_ ?_ ?_
 · cases a <;> (intro B1; kernel_rfl)
 · exact fun B1 s' p' hB h1 b1 => G B1 s' p' hB h1 b1
 · intro v hv; rw [List.mem_singleton.mp hv]; exact hg
theorem la3 (H : HpW (W3 w a b c) s2.heap [(B + 1, lwF2 (W3 w a b c) sc s.toks u s1.toks), (u, listO ps cu)])
   (G : ∀ B2 s' p', s2.heap.objs.size = B2 + 2 → HpW (W3 w a b c) s'.heap [(B + 1, lawFr (W3 w a b c) ⟨sc, u, N, tN, s.toks, s1.toks, s2.toks⟩ #[] .a), (u, listO ps cu), (B2 + 2, listO [.str ⟨#[105,116,39,115]⟩ (s2.toks + 1)] 0)] → Beh [B + 1, u] s2 s' → wpCode (model prg (W3 w a b c)) ⟨.call (.builtin "list.__add__") ⟨[.ref u, .ref (B2 + 2)], []⟩, none, none, [(lawF (B + 1) ⟨796,17,796,34⟩).c, (.builtin "claim.caller" {}, q)], none⟩ (fun z s'' => Mn (model prg (W3 w a b c)) R (cfΓ (rL3 (W3 w a b c) s B sc vs cc q p s1 B1 u ps cu Y tY s2 B2 N tN)) (cfp (rL3 (W3 w a b c) s B sc vs cc q p s1 B1 u ps cu Y tY s2 B2 N tN)) (cfκ (rL3 (W3 w a b c) s B sc vs cc q p s1 B1 u ps cu Y tY s2 B2 N tN)) (ansT (rL3 (W3 w a b c) s B sc vs cc q p s1 B1 u ps cu Y tY s2 B2 N tN) z) s'') p' s') :
   Mn (model prg (W3 w a b c)) R (cfΓ (rL2 (W3 w a b c) s B sc vs cc q p s1 B1 u ps cu Y tY)) (cfp (rL2 (W3 w a b c) s B sc vs cc q p s1 B1 u ps cu Y tY)) (cfκ (rL2 (W3 w a b c) s B sc vs cc q p s1 B1 u ps cu Y tY)) (ansT (rL2 (W3 w a b c) s B sc vs cc q p s1 B1 u ps cu Y tY) (.ok (.ret (.str N tN)))) s2 := by
 refine sn_call H 18 2198343745 [] [0,1,2] (fun B2 => [lawFr (W3 w a b c) ⟨sc, u, N, tN, s.toks, s1.toks, s2.toks⟩ #[] .a, listO ps cu, listO [.str ⟨#[105,116,39,115]⟩ (s2.toks + 1)] 0]) (fun B2 => ⟨.call (.builtin "list.__add__") ⟨[.ref u, .ref (B2 + 2)], []⟩, none, none, [(lawF (B + 1) ⟨796,17,796,34⟩).c, (.builtin "claim.caller" {}, q)], none⟩) true dsN rfl (by decide) ?_ ?_
 · cases a <;> (intro B2; kernel_rfl)
 · exact fun B2 s' p' hB h1 b1 => G B2 s' p' hB h1 b1
theorem la4 (H : HpW (W3 w a b c) s3.heap [(B + 1, lawFr (W3 w a b c) ⟨sc, u, N, tN, s.toks, s1.toks, s2.toks⟩ #[] .a), (l, listO ws 0)])
   (G : ∀ B3 s' p', s3.heap.objs.size = B3 + 2 → HpW (W3 w a b c) s'.heap [(B + 1, lawFr (W3 w a b c) ⟨sc, u, N, tN, s.toks, s1.toks, s2.toks⟩ #[] .a), (l, listO ws 0), (B3 + 2, itO l 0)] → Beh [B + 1, l] s3 s' → wpCode (model prg (W3 w a b c)) (gV (B3 + 2) (B + 1) q) (fun z s'' => Mn (model prg (W3 w a b c)) R (cfΓ (rL4 (W3 w a b c) s B sc vs cc q p s1 B1 u ps cu Y tY s2 B2 N tN s3 B3 l ws)) (cfp (rL4 (W3 w a b c) s B sc vs cc q p s1 B1 u ps cu Y tY s2 B2 N tN s3 B3 l ws)) (cfκ (rL4 (W3 w a b c) s B sc vs cc q p s1 B1 u ps cu Y tY s2 B2 N tN s3 B3 l ws)) (ansT (rL4 (W3 w a b c) s B sc vs cc q p s1 B1 u ps cu Y tY s2 B2 N tN s3 B3 l ws) z) s'') p' s') :
   Mn (model prg (W3 w a b c)) R (cfΓ (rL3 (W3 w a b c) s B sc vs cc q p s1 B1 u ps cu Y tY s2 B2 N tN)) (cfp (rL3 (W3 w a b c) s B sc vs cc q p s1 B1 u ps cu Y tY s2 B2 N tN)) (cfκ (rL3 (W3 w a b c) s B sc vs cc q p s1 B1 u ps cu Y tY s2 B2 N tN)) (ansT (rL3 (W3 w a b c) s B sc vs cc q p s1 B1 u ps cu Y tY s2 B2 N tN) (.ok (.ret (.ref l)))) s3 := by
 refine sn_call H 11 50856066 [] [0,1,2] (fun B3 => [lawFr (W3 w a b c) ⟨sc, u, N, tN, s.toks, s1.toks, s2.toks⟩ #[] .a, listO ws 0, itO l 0]) (fun B3 => gV (B3 + 2) (B + 1) q) true dsN rfl (by decide) ?_ ?_
 · cases a <;> (intro B3; kernel_rfl)
 · exact fun B3 s' p' hB h1 b1 => G B3 s' p' hB h1 b1
theorem la5 (H : HpW (W3 w a b c) s4.heap []) (hR : ∀ s', HpW (W3 w a b c) s'.heap [] → Beh [] s4 s' → R (.ok (.ret (.bool true))) s') : Mn (model prg (W3 w a b c)) R (cfΓ (rL4 (W3 w a b c) s B sc vs cc q p s1 B1 u ps cu Y tY s2 B2 N tN s3 B3 l ws)) (cfp (rL4 (W3 w a b c) s B sc vs cc q p s1 B1 u ps cu Y tY s2 B2 N tN s3 B3 l ws)) (cfκ (rL4 (W3 w a b c) s B sc vs cc q p s1 B1 u ps cu Y tY s2 B2 N tN s3 B3 l ws)) (ansT (rL4 (W3 w a b c) s B sc vs cc q p s1 B1 u ps cu Y tY s2 B2 N tN s3 B3 l ws) (.ok .next)) s4 := by
 refine sn_ok H 1 0 [] [] (fun _ => []) (fun _ => .ret (.bool true)) dsN rfl (by decide) ?_ ?_
 · cases a <;> (intro B4; kernel_rfl)
 · exact fun B4 s' hB h1 b1 => hR s' h1 b1
theorem lv1 (H : HpW (W3 w a b c) s.heap [(L, lawFr (W3 w a b c) K sl st), (it, itO l i)])
   (G : ∀ B s' p', HpW (W3 w a b c) s'.heap [(L, lawFr (W3 w a b c) K sl st), (it, itO l i)] → Beh [L, it] s s' → wpCode (model prg (W3 w a b c)) ⟨.call (.builtin "list_iterator.__next__") ⟨[.ref it], []⟩, none, none, [(vL it L ⟨796,8,796,13⟩).f, (lawF L pV0).c, (.builtin "claim.caller" {}, q)], none⟩ (fun z s'' => Mn (model prg (W3 w a b c)) R (cfΓ (rV1 (W3 w a b c) s B L K sl st it l i q p)) (cfp (rV1 (W3 w a b c) s B L K sl st it l i q p)) (cfκ (rV1 (W3 w a b c) s B L K sl st it l i q p)) (ansT (rV1 (W3 w a b c) s B L K sl st it l i q p) z) s'') p' s') :
   wpCode (model prg (W3 w a b c)) (gV it L q) R p s := by
 refine code_mn (c := cV it L) rfl (sn_call H 2 2 [] [0,1] (fun _ => [lawFr (W3 w a b c) K sl st, itO l i]) (fun _ => ⟨.call (.builtin "list_iterator.__next__") ⟨[.ref it], []⟩, none, none, [(vL it L ⟨796,8,796,13⟩).f, (lawF L pV0).c, (.builtin "claim.caller" {}, q)], none⟩) true dsN ?_ (by decide) ?_ ?_)
 · cases st <;> rfl
 · cases st <;> cases a <;> (intro B; kernel_rfl)
 · exact fun B s' p' hB h1 b1 => G B s' p' h1 b1
theorem lvE (H : HpW (W3 w a b c) s1.heap [(e, excNew "StopIteration" t)]) (hR : ∀ s', HpW (W3 w a b c) s'.heap [(e, excNew "StopIteration" t)] → Beh [e] s1 s' → R (.ok .next) s') :
   Mn (model prg (W3 w a b c)) R (cfΓ (rV1 (W3 w a b c) s B L K sl st it l i q p)) (cfp (rV1 (W3 w a b c) s B L K sl st it l i q p)) (cfκ (rV1 (W3 w a b c) s B L K sl st it l i q p)) (ansT (rV1 (W3 w a b c) s B L K sl st it l i q p) (.error (.ref e))) s1 := by
 refine sn_ok H 2 1 [] [0] (fun _ => [excNew "StopIteration" t]) (fun _ => .next) dsN rfl (by decide) ?_ ?_
 · cases st <;> cases a <;> (intro B2; kernel_rfl)
 · exact fun B2 s3 _ h2 b2 => hR s3 h2 b2
theorem lv2a {V' : Str} {tV' : Nat} (H : HpW (W3 w a b c) s1.heap [(L, lawFr (W3 w a b c) K sl (.a)), (it, itO l (i + 1))])
   (G : ∀ B1 s' p', s1.heap.objs.size = B1 + 2 → HpW (W3 w a b c) s'.heap [(L, lawFr (W3 w a b c) K sl (.b s1.toks V' tV')), (it, itO l (i + 1)), (B1 + 2, tupM (s1.toks + 1) (s1.toks + 2)), (B1 + 3, tuI (B1 + 2) 0)] → Beh [L, it] s1 s' → wpCode (model prg (W3 w a b c)) (gM (B1 + 3) it L q) (fun z s'' => Mn (model prg (W3 w a b c)) R (cfΓ (rV2 (W3 w a b c) s B L K sl (.a) it l i q p s1 B1 V' tV')) (cfp (rV2 (W3 w a b c) s B L K sl (.a) it l i q p s1 B1 V' tV')) (cfκ (rV2 (W3 w a b c) s B L K sl (.a) it l i q p s1 B1 V' tV')) (ansT (rV2 (W3 w a b c) s B L K sl (.a) it l i q p s1 B1 V' tV') z) s'') p' s') :
   Mn (model prg (W3 w a b c)) R (cfΓ (rV1 (W3 w a b c) s B L K sl (.a) it l i q p)) (cfp (rV1 (W3 w a b c) s B L K sl (.a) it l i q p)) (cfκ (rV1 (W3 w a b c) s B L K sl (.a) it l i q p)) (ansT (rV1 (W3 w a b c) s B L K sl (.a) it l i q p) (.ok (.ret (.str V' tV')))) s1 := by
 refine sn_call H 22 278099931201 [] [0,1,2,3] (fun B1 => [lawFr (W3 w a b c) K sl (.b s1.toks V' tV'), itO l (i + 1), tupM (s1.toks + 1) (s1.toks + 2), tuI (B1 + 2) 0]) (fun B1 => gM (B1 + 3) it L q) true dsN rfl (by decide) ?_ ?_
 · cases a <;> (intro B1; kernel_rfl)
 · exact fun B1 s' p' hB h1 b1 => G B1 s' p' hB h1 b1
theorem lv3a {V' : Str} {tV' : Nat} (H : HpW (W3 w a b c) s2.heap []) (G : ∀ s' p', HpW (W3 w a b c) s'.heap [] → Beh [] s2 s' → wpCode (model prg (W3 w a b c)) (gV it L q) R p' s') :
   Mn (model prg (W3 w a b c)) R (cfΓ (rV2 (W3 w a b c) s B L K sl (.a) it l i q p s1 B1 V' tV')) (cfp (rV2 (W3 w a b c) s B L K sl (.a) it l i q p s1 B1 V' tV')) (cfκ (rV2 (W3 w a b c) s B L K sl (.a) it l i q p s1 B1 V' tV')) (ansT (rV2 (W3 w a b c) s B L K sl (.a) it l i q p s1 B1 V' tV') (.ok .next)) s2 := by
 refine sn_again H 0 0 [] [] (fun _ => []) (fun _ => gV it L q) dsN rfl (by decide) ?_ ?_
 · cases a <;> (intro B2; kernel_rfl)
 · exact fun B2 s' p' hB h1 b1 => G s' p' h1 b1
theorem lv2e {V' : Str} {tV' : Nat} (H : HpW (W3 w a b c) s1.heap [(L, lawFr (W3 w a b c) K sl (.e k3 V tV k4 m tm k5 X tX k6 r)), (it, itO l (i + 1))])
   (G : ∀ B1 s' p', s1.heap.objs.size = B1 + 2 → HpW (W3 w a b c) s'.heap [(L, lawFr (W3 w a b c) K sl (.e k3 V' tV' k4 m tm k5 X tX k6 r)), (it, itO l (i + 1)), (B1 + 2, tupM (s1.toks + 1) (s1.toks + 2)), (B1 + 3, tuI (B1 + 2) 0)] → Beh [L, it] s1 s' → wpCode (model prg (W3 w a b c)) (gM (B1 + 3) it L q) (fun z s'' => Mn (model prg (W3 w a b c)) R (cfΓ (rV2 (W3 w a b c) s B L K sl (.e k3 V tV k4 m tm k5 X tX k6 r) it l i q p s1 B1 V' tV')) (cfp (rV2 (W3 w a b c) s B L K sl (.e k3 V tV k4 m tm k5 X tX k6 r) it l i q p s1 B1 V' tV')) (cfκ (rV2 (W3 w a b c) s B L K sl (.e k3 V tV k4 m tm k5 X tX k6 r) it l i q p s1 B1 V' tV')) (ansT (rV2 (W3 w a b c) s B L K sl (.e k3 V tV k4 m tm k5 X tX k6 r) it l i q p s1 B1 V' tV') z) s'') p' s') :
   Mn (model prg (W3 w a b c)) R (cfΓ (rV1 (W3 w a b c) s B L K sl (.e k3 V tV k4 m tm k5 X tX k6 r) it l i q p)) (cfp (rV1 (W3 w a b c) s B L K sl (.e k3 V tV k4 m tm k5 X tX k6 r) it l i q p)) (cfκ (rV1 (W3 w a b c) s B L K sl (.e k3 V tV k4 m tm k5 X tX k6 r) it l i q p)) (ansT (rV1 (W3 w a b c) s B L K sl (.e k3 V tV k4 m tm k5 X tX k6 r) it l i q p) (.ok (.ret (.str V' tV')))) s1 := by
 refine sn_call H 22 278099931201 [] [0,1,2,3] (fun B1 => [lawFr (W3 w a b c) K sl (.e k3 V' tV' k4 m tm k5 X tX k6 r), itO l (i + 1), tupM (s1.toks + 1) (s1.toks + 2), tuI (B1 + 2) 0]) (fun B1 => gM (B1 + 3) it L q) true dsN rfl (by decide) ?_ ?_
 · cases a <;> (intro B1; kernel_rfl)
 · exact fun B1 s' p' hB h1 b1 => G B1 s' p' hB h1 b1
theorem lv3e {V' : Str} {tV' : Nat} (H : HpW (W3 w a b c) s2.heap []) (G : ∀ s' p', HpW (W3 w a b c) s'.heap [] → Beh [] s2 s' → wpCode (model prg (W3 w a b c)) (gV it L q) R p' s') :
   Mn (model prg (W3 w a b c)) R (cfΓ (rV2 (W3 w a b c) s B L K sl (.e k3 V tV k4 m tm k5 X tX k6 r) it l i q p s1 B1 V' tV')) (cfp (rV2 (W3 w a b c) s B L K sl (.e k3 V tV k4 m tm k5 X tX k6 r) it l i q p s1 B1 V' tV')) (cfκ (rV2 (W3 w a b c) s B L K sl (.e k3 V tV k4 m tm k5 X tX k6 r) it l i q p s1 B1 V' tV')) (ansT (rV2 (W3 w a b c) s B L K sl (.e k3 V tV k4 m tm k5 X tX k6 r) it l i q p s1 B1 V' tV') (.ok .next)) s2 := by
 refine sn_again H 0 0 [] [] (fun _ => []) (fun _ => gV it L q) dsN rfl (by decide) ?_ ?_
 · cases a <;> (intro B2; kernel_rfl)
 · exact fun B2 s' p' hB h1 b1 => G s' p' h1 b1
theorem lm1_0b (H : HpW (W3 w a b c) s.heap [(L, lawFr (W3 w a b c) K sl (.b k3 V tV)), (mt, tuI tu 0), (tu, tupM t1 t2)])
   (G : ∀ B s' p', HpW (W3 w a b c) s'.heap [(L, lawFr (W3 w a b c) K sl (.c k3 V tV s.toks 1 t1)), (mt, tuI tu 1), (tu, tupM t1 t2)] → Beh [L, mt, tu] s s' → wpCode (model prg (W3 w a b c)) (gQU K.N K.tN (xM mt it L q ⟨798,35,798,46⟩)) (fun z s'' => Mn (model prg (W3 w a b c)) R (cfΓ (rN1 (W3 w a b c) s B L K sl (.b k3 V tV) mt it tu 0 t1 t2 q p)) (cfp (rN1 (W3 w a b c) s B L K sl (.b k3 V tV) mt it tu 0 t1 t2 q p)) (cfκ (rN1 (W3 w a b c) s B L K sl (.b k3 V tV) mt it tu 0 t1 t2 q p)) (ansT (rN1 (W3 w a b c) s B L K sl (.b k3 V tV) mt it tu 0 t1 t2 q p) z) s'') p' s') :
   wpCode (model prg (W3 w a b c)) (gM mt it L q) R p s := by
 refine code_mn (c := cM mt L) rfl (sn_call H 27 4722384787679918694402 [] [0,1,2] (fun _ => [lawFr (W3 w a b c) K sl (.c k3 V tV s.toks 1 t1), tuI tu 1, tupM t1 t2]) (fun _ => gQU K.N K.tN (xM mt it L q ⟨798,35,798,46⟩)) true dsN rfl (by decide) ?_ ?_)
 · cases a <;> (intro B; kernel_rfl)
 · exact fun B s' p' hB h1 b1 => G B s' p' h1 b1
theorem lm2_0b {k4' : Nat} (H : HpW (W3 w a b c) s1.heap [(L, lawFr (W3 w a b c) K sl (.c k3 V tV k4' 1 t1))])
   (G : ∀ B1 s' p', HpW (W3 w a b c) s'.heap [(L, lawFr (W3 w a b c) K sl (.c k3 V tV k4' 1 t1))] → Beh [L] s1 s' → wpCode (model prg (W3 w a b c)) (gFP Q tQ V tV 1 t1 (xM mt it L q ⟨798,22,798,61⟩)) (fun z s'' => Mn (model prg (W3 w a b c)) R (cfΓ (rN2 (W3 w a b c) s B L K sl (.b k3 V tV) mt it tu 0 t1 t2 q p s1 B1 (.c k3 V tV k4' 1 t1) Q tQ)) (cfp (rN2 (W3 w a b c) s B L K sl (.b k3 V tV) mt it tu 0 t1 t2 q p s1 B1 (.c k3 V tV k4' 1 t1) Q tQ)) (cfκ (rN2 (W3 w a b c) s B L K sl (.b k3 V tV) mt it tu 0 t1 t2 q p s1 B1 (.c k3 V tV k4' 1 t1) Q tQ)) (ansT (rN2 (W3 w a b c) s B L K sl (.b k3 V tV) mt it tu 0 t1 t2 q p s1 B1 (.c k3 V tV k4' 1 t1) Q tQ) z) s'') p' s') :
   Mn (model prg (W3 w a b c)) R (cfΓ (rN1 (W3 w a b c) s B L K sl (.b k3 V tV) mt it tu 0 t1 t2 q p)) (cfp (rN1 (W3 w a b c) s B L K sl (.b k3 V tV) mt it tu 0 t1 t2 q p)) (cfκ (rN1 (W3 w a b c) s B L K sl (.b k3 V tV) mt it tu 0 t1 t2 q p)) (ansT (rN1 (W3 w a b c) s B L K sl (.b k3 V tV) mt it tu 0 t1 t2 q p) (.ok (.ret (.str Q tQ)))) s1 := by
 refine sn_call H 7 65 [] [0] (fun _ => [lawFr (W3 w a b c) K sl (.c k3 V tV k4' 1 t1)]) (fun _ => gFP Q tQ V tV 1 t1 (xM mt it L q ⟨798,22,798,61⟩)) true dsN rfl (by decide) ?_ ?_
 · cases a <;> (intro B1; kernel_rfl)
 · exact fun B1 s' p' hB h1 b1 => G B1 s' p' h1 b1
theorem lm3_0b {k4' : Nat} {X' : Str} {tX' : Nat} (H : HpW (W3 w a b c) s2.heap [(L, lawFr (W3 w a b c) K sl (.c k3 V tV k4' 1 t1))])
   (G : ∀ B2 s' p', s2.heap.objs.size = B2 + 1 → HpW (W3 w a b c) s'.heap [(L, lawFr (W3 w a b c) K sl (.d k3 V tV k4' 1 t1 s2.toks X' tX')), (B2 + 1, tupR), (B2 + 2, tuI (B2 + 1) 0)] → Beh [L] s2 s' → wpCode (model prg (W3 w a b c)) (gR (B2 + 2) mt it L q) (fun z s'' => Mn (model prg (W3 w a b c)) R (cfΓ (rN3 (W3 w a b c) s B L K sl (.b k3 V tV) mt it tu 0 t1 t2 q p s1 B1 (.c k3 V tV k4' 1 t1) Q tQ s2 B2 X' tX')) (cfp (rN3 (W3 w a b c) s B L K sl (.b k3 V tV) mt it tu 0 t1 t2 q p s1 B1 (.c k3 V tV k4' 1 t1) Q tQ s2 B2 X' tX')) (cfκ (rN3 (W3 w a b c) s B L K sl (.b k3 V tV) mt it tu 0 t1 t2 q p s1 B1 (.c k3 V tV k4' 1 t1) Q tQ s2 B2 X' tX')) (ansT (rN3 (W3 w a b c) s B L K sl (.b k3 V tV) mt it tu 0 t1 t2 q p s1 B1 (.c k3 V tV k4' 1 t1) Q tQ s2 B2 X' tX') z) s'') p' s') :
   Mn (model prg (W3 w a b c)) R (cfΓ (rN2 (W3 w a b c) s B L K sl (.b k3 V tV) mt it tu 0 t1 t2 q p s1 B1 (.c k3 V tV k4' 1 t1) Q tQ)) (cfp (rN2 (W3 w a b c) s B L K sl (.b k3 V tV) mt it tu 0 t1 t2 q p s1 B1 (.c k3 V tV k4' 1 t1) Q tQ)) (cfκ (rN2 (W3 w a b c) s B L K sl (.b k3 V tV) mt it tu 0 t1 t2 q p s1 B1 (.c k3 V tV k4' 1 t1) Q tQ)) (ansT (rN2 (W3 w a b c) s B L K sl (.b k3 V tV) mt it tu 0 t1 t2 q p s1 B1 (.c k3 V tV k4' 1 t1) Q tQ) (.ok (.ret (.str X' tX')))) s2 := by
 refine sn_call H 21 208306446401 [] [0,1,2] (fun B2 => [lawFr (W3 w a b c) K sl (.d k3 V tV k4' 1 t1 s2.toks X' tX'), tupR, tuI (B2 + 1) 0]) (fun B2 => gR (B2 + 2) mt it L q) true dsN rfl (by decide) ?_ ?_
 · cases a <;> (intro B2; kernel_rfl)
 · exact fun B2 s' p' hB h1 b1 => G B2 s' p' hB h1 b1
theorem lm4_0b {k4' : Nat} {X' : Str} {tX' : Nat} (H : HpW (W3 w a b c) s3.heap []) (G : ∀ s' p', HpW (W3 w a b c) s'.heap [] → Beh [] s3 s' → wpCode (model prg (W3 w a b c)) (gM mt it L q) R p' s') :
   Mn (model prg (W3 w a b c)) R (cfΓ (rN3 (W3 w a b c) s B L K sl (.b k3 V tV) mt it tu 0 t1 t2 q p s1 B1 (.c k3 V tV k4' 1 t1) Q tQ s2 B2 X' tX')) (cfp (rN3 (W3 w a b c) s B L K sl (.b k3 V tV) mt it tu 0 t1 t2 q p s1 B1 (.c k3 V tV k4' 1 t1) Q tQ s2 B2 X' tX')) (cfκ (rN3 (W3 w a b c) s B L K sl (.b k3 V tV) mt it tu 0 t1 t2 q p s1 B1 (.c k3 V tV k4' 1 t1) Q tQ s2 B2 X' tX')) (ansT (rN3 (W3 w a b c) s B L K sl (.b k3 V tV) mt it tu 0 t1 t2 q p s1 B1 (.c k3 V tV k4' 1 t1) Q tQ s2 B2 X' tX') (.ok .next)) s3 := by
 refine sn_again H 0 0 [] [] (fun _ => []) (fun _ => gM mt it L q) dsN rfl (by decide) ?_ ?_
 · cases a <;> (intro B2; kernel_rfl)
 · exact fun B2 s' p' hB h1 b1 => G s' p' h1 b1
theorem lm1_0e (H : HpW (W3 w a b c) s.heap [(L, lawFr (W3 w a b c) K sl (.e k3 V tV k4 m tm k5 X tX k6 r)), (mt, tuI tu 0), (tu, tupM t1 t2)])
   (G : ∀ B s' p', HpW (W3 w a b c) s'.heap [(L, lawFr (W3 w a b c) K sl (.e k3 V tV k4 1 t1 k5 X tX k6 r)), (mt, tuI tu 1), (tu, tupM t1 t2)] → Beh [L, mt, tu] s s' → wpCode (model prg (W3 w a b c)) (gQU K.N K.tN (xM mt it L q ⟨798,35,798,46⟩)) (fun z s'' => Mn (model prg (W3 w a b c)) R (cfΓ (rN1 (W3 w a b c) s B L K sl (.e k3 V tV k4 m tm k5 X tX k6 r) mt it tu 0 t1 t2 q p)) (cfp (rN1 (W3 w a b c) s B L K sl (.e k3 V tV k4 m tm k5 X tX k6 r) mt it tu 0 t1 t2 q p)) (cfκ (rN1 (W3 w a b c) s B L K sl (.e k3 V tV k4 m tm k5 X tX k6 r) mt it tu 0 t1 t2 q p)) (ansT (rN1 (W3 w a b c) s B L K sl (.e k3 V tV k4 m tm k5 X tX k6 r) mt it tu 0 t1 t2 q p) z) s'') p' s') :
   wpCode (model prg (W3 w a b c)) (gM mt it L q) R p s := by
 refine code_mn (c := cM mt L) rfl (sn_call H 27 4722384787679918694402 [] [0,1,2] (fun _ => [lawFr (W3 w a b c) K sl (.e k3 V tV k4 1 t1 k5 X tX k6 r), tuI tu 1, tupM t1 t2]) (fun _ => gQU K.N K.tN (xM mt it L q ⟨798,35,798,46⟩)) true dsN rfl (by decide) ?_ ?_)
 · cases a <;> (intro B; kernel_rfl)
 · exact fun B s' p' hB h1 b1 => G B s' p' h1 b1
theorem lm2_0e  (H : HpW (W3 w a b c) s1.heap [(L, lawFr (W3 w a b c) K sl (.e k3 V tV k4 1 t1 k5 X tX k6 r))])
   (G : ∀ B1 s' p', HpW (W3 w a b c) s'.heap [(L, lawFr (W3 w a b c) K sl (.e k3 V tV k4 1 t1 k5 X tX k6 r))] → Beh [L] s1 s' → wpCode (model prg (W3 w a b c)) (gFP Q tQ V tV 1 t1 (xM mt it L q ⟨798,22,798,61⟩)) (fun z s'' => Mn (model prg (W3 w a b c)) R (cfΓ (rN2 (W3 w a b c) s B L K sl (.e k3 V tV k4 m tm k5 X tX k6 r) mt it tu 0 t1 t2 q p s1 B1 (.e k3 V tV k4 1 t1 k5 X tX k6 r) Q tQ)) (cfp (rN2 (W3 w a b c) s B L K sl (.e k3 V tV k4 m tm k5 X tX k6 r) mt it tu 0 t1 t2 q p s1 B1 (.e k3 V tV k4 1 t1 k5 X tX k6 r) Q tQ)) (cfκ (rN2 (W3 w a b c) s B L K sl (.e k3 V tV k4 m tm k5 X tX k6 r) mt it tu 0 t1 t2 q p s1 B1 (.e k3 V tV k4 1 t1 k5 X tX k6 r) Q tQ)) (ansT (rN2 (W3 w a b c) s B L K sl (.e k3 V tV k4 m tm k5 X tX k6 r) mt it tu 0 t1 t2 q p s1 B1 (.e k3 V tV k4 1 t1 k5 X tX k6 r) Q tQ) z) s'') p' s') :
   Mn (model prg (W3 w a b c)) R (cfΓ (rN1 (W3 w a b c) s B L K sl (.e k3 V tV k4 m tm k5 X tX k6 r) mt it tu 0 t1 t2 q p)) (cfp (rN1 (W3 w a b c) s B L K sl (.e k3 V tV k4 m tm k5 X tX k6 r) mt it tu 0 t1 t2 q p)) (cfκ (rN1 (W3 w a b c) s B L K sl (.e k3 V tV k4 m tm k5 X tX k6 r) mt it tu 0 t1 t2 q p)) (ansT (rN1 (W3 w a b c) s B L K sl (.e k3 V tV k4 m tm k5 X tX k6 r) mt it tu 0 t1 t2 q p) (.ok (.ret (.str Q tQ)))) s1 := by
 refine sn_call H 7 65 [] [0] (fun _ => [lawFr (W3 w a b c) K sl (.e k3 V tV k4 1 t1 k5 X tX k6 r)]) (fun _ => gFP Q tQ V tV 1 t1 (xM mt it L q ⟨798,22,798,61⟩)) true dsN rfl (by decide) ?_ ?_
 · cases a <;> (intro B1; kernel_rfl)
 · exact fun B1 s' p' hB h1 b1 => G B1 s' p' h1 b1
theorem lm3_0e  {X' : Str} {tX' : Nat} (H : HpW (W3 w a b c) s2.heap [(L, lawFr (W3 w a b c) K sl (.e k3 V tV k4 1 t1 k5 X tX k6 r))])
   (G : ∀ B2 s' p', s2.heap.objs.size = B2 + 1 → HpW (W3 w a b c) s'.heap [(L, lawFr (W3 w a b c) K sl (.e k3 V tV k4 1 t1 k5 X' tX' k6 r)), (B2 + 1, tupR), (B2 + 2, tuI (B2 + 1) 0)] → Beh [L] s2 s' → wpCode (model prg (W3 w a b c)) (gR (B2 + 2) mt it L q) (fun z s'' => Mn (model prg (W3 w a b c)) R (cfΓ (rN3 (W3 w a b c) s B L K sl (.e k3 V tV k4 m tm k5 X tX k6 r) mt it tu 0 t1 t2 q p s1 B1 (.e k3 V tV k4 1 t1 k5 X tX k6 r) Q tQ s2 B2 X' tX')) (cfp (rN3 (W3 w a b c) s B L K sl (.e k3 V tV k4 m tm k5 X tX k6 r) mt it tu 0 t1 t2 q p s1 B1 (.e k3 V tV k4 1 t1 k5 X tX k6 r) Q tQ s2 B2 X' tX')) (cfκ (rN3 (W3 w a b c) s B L K sl (.e k3 V tV k4 m tm k5 X tX k6 r) mt it tu 0 t1 t2 q p s1 B1 (.e k3 V tV k4 1 t1 k5 X tX k6 r) Q tQ s2 B2 X' tX')) (ansT (rN3 (W3 w a b c) s B L K sl (.e k3 V tV k4 m tm k5 X tX k6 r) mt it tu 0 t1 t2 q p s1 B1 (.e k3 V tV k4 1 t1 k5 X tX k6 r) Q tQ s2 B2 X' tX') z) s'') p' s') :
   Mn (model prg (W3 w a b c)) R (cfΓ (rN2 (W3 w a b c) s B L K sl (.e k3 V tV k4 m tm k5 X tX k6 r) mt it tu 0 t1 t2 q p s1 B1 (.e k3 V tV k4 1 t1 k5 X tX k6 r) Q tQ)) (cfp (rN2 (W3 w a b c) s B L K sl (.e k3 V tV k4 m tm k5 X tX k6 r) mt it tu 0 t1 t2 q p s1 B1 (.e k3 V tV k4 1 t1 k5 X tX k6 r) Q tQ)) (cfκ (rN2 (W3 w a b c) s B L K sl (.e k3 V tV k4 m tm k5 X tX k6 r) mt it tu 0 t1 t2 q p s1 B1 (.e k3 V tV k4 1 t1 k5 X tX k6 r) Q tQ)) (ansT (rN2 (W3 w a b c) s B L K sl (.e k3 V tV k4 m tm k5 X tX k6 r) mt it tu 0 t1 t2 q p s1 B1 (.e k3 V tV k4 1 t1 k5 X tX k6 r) Q tQ) (.ok (.ret (.str X' tX')))) s2 := by
 refine sn_call H 21 208306446401 [] [0,1,2] (fun B2 => [lawFr (W3 w a b c) K sl (.e k3 V tV k4 1 t1 k5 X' tX' k6 r), tupR, tuI (B2 + 1) 0]) (fun B2 => gR (B2 + 2) mt it L q) true dsN rfl (by decide) ?_ ?_
 · cases a <;> (intro B2; kernel_rfl)
 · exact fun B2 s' p' hB h1 b1 => G B2 s' p' hB h1 b1
theorem lm4_0e  {X' : Str} {tX' : Nat} (H : HpW (W3 w a b c) s3.heap []) (G : ∀ s' p', HpW (W3 w a b c) s'.heap [] → Beh [] s3 s' → wpCode (model prg (W3 w a b c)) (gM mt it L q) R p' s') :
   Mn (model prg (W3 w a b c)) R (cfΓ (rN3 (W3 w a b c) s B L K sl (.e k3 V tV k4 m tm k5 X tX k6 r) mt it tu 0 t1 t2 q p s1 B1 (.e k3 V tV k4 1 t1 k5 X tX k6 r) Q tQ s2 B2 X' tX')) (cfp (rN3 (W3 w a b c) s B L K sl (.e k3 V tV k4 m tm k5 X tX k6 r) mt it tu 0 t1 t2 q p s1 B1 (.e k3 V tV k4 1 t1 k5 X tX k6 r) Q tQ s2 B2 X' tX')) (cfκ (rN3 (W3 w a b c) s B L K sl (.e k3 V tV k4 m tm k5 X tX k6 r) mt it tu 0 t1 t2 q p s1 B1 (.e k3 V tV k4 1 t1 k5 X tX k6 r) Q tQ s2 B2 X' tX')) (ansT (rN3 (W3 w a b c) s B L K sl (.e k3 V tV k4 m tm k5 X tX k6 r) mt it tu 0 t1 t2 q p s1 B1 (.e k3 V tV k4 1 t1 k5 X tX k6 r) Q tQ s2 B2 X' tX') (.ok .next)) s3 := by
 refine sn_again H 0 0 [] [] (fun _ => []) (fun _ => gM mt it L q) dsN rfl (by decide) ?_ ?_
 · cases a <;> (intro B2; kernel_rfl)
 · exact fun B2 s' p' hB h1 b1 => G s' p' h1 b1
theorem lm1_1e (H : HpW (W3 w a b c) s.heap [(L, lawFr (W3 w a b c) K sl (.e k3 V tV k4 m tm k5 X tX k6 r)), (mt, tuI tu 1), (tu, tupM t1 t2)])
   (G : ∀ B s' p', HpW (W3 w a b c) s'.heap [(L, lawFr (W3 w a b c) K sl (.e k3 V tV k4 0 t2 k5 X tX k6 r)), (mt, tuI tu 2), (tu, tupM t1 t2)] → Beh [L, mt, tu] s s' → wpCode (model prg (W3 w a b c)) (gQU K.N K.tN (xM mt it L q ⟨798,35,798,46⟩)) (fun z s'' => Mn (model prg (W3 w a b c)) R (cfΓ (rN1 (W3 w a b c) s B L K sl (.e k3 V tV k4 m tm k5 X tX k6 r) mt it tu 1 t1 t2 q p)) (cfp (rN1 (W3 w a b c) s B L K sl (.e k3 V tV k4 m tm k5 X tX k6 r) mt it tu 1 t1 t2 q p)) (cfκ (rN1 (W3 w a b c) s B L K sl (.e k3 V tV k4 m tm k5 X tX k6 r) mt it tu 1 t1 t2 q p)) (ansT (rN1 (W3 w a b c) s B L K sl (.e k3 V tV k4 m tm k5 X tX k6 r) mt it tu 1 t1 t2 q p) z) s'') p' s') :
   wpCode (model prg (W3 w a b c)) (gM mt it L q) R p s := by
 refine code_mn (c := cM mt L) rfl (sn_call H 27 4722384787679918694402 [] [0,1,2] (fun _ => [lawFr (W3 w a b c) K sl (.e k3 V tV k4 0 t2 k5 X tX k6 r), tuI tu 2, tupM t1 t2]) (fun _ => gQU K.N K.tN (xM mt it L q ⟨798,35,798,46⟩)) true dsN rfl (by decide) ?_ ?_)
 · cases a <;> (intro B; kernel_rfl)
 · exact fun B s' p' hB h1 b1 => G B s' p' h1 b1
theorem lm2_1e  (H : HpW (W3 w a b c) s1.heap [(L, lawFr (W3 w a b c) K sl (.e k3 V tV k4 0 t2 k5 X tX k6 r))])
   (G : ∀ B1 s' p', HpW (W3 w a b c) s'.heap [(L, lawFr (W3 w a b c) K sl (.e k3 V tV k4 0 t2 k5 X tX k6 r))] → Beh [L] s1 s' → wpCode (model prg (W3 w a b c)) (gFP Q tQ V tV 0 t2 (xM mt it L q ⟨798,22,798,61⟩)) (fun z s'' => Mn (model prg (W3 w a b c)) R (cfΓ (rN2 (W3 w a b c) s B L K sl (.e k3 V tV k4 m tm k5 X tX k6 r) mt it tu 1 t1 t2 q p s1 B1 (.e k3 V tV k4 0 t2 k5 X tX k6 r) Q tQ)) (cfp (rN2 (W3 w a b c) s B L K sl (.e k3 V tV k4 m tm k5 X tX k6 r) mt it tu 1 t1 t2 q p s1 B1 (.e k3 V tV k4 0 t2 k5 X tX k6 r) Q tQ)) (cfκ (rN2 (W3 w a b c) s B L K sl (.e k3 V tV k4 m tm k5 X tX k6 r) mt it tu 1 t1 t2 q p s1 B1 (.e k3 V tV k4 0 t2 k5 X tX k6 r) Q tQ)) (ansT (rN2 (W3 w a b c) s B L K sl (.e k3 V tV k4 m tm k5 X tX k6 r) mt it tu 1 t1 t2 q p s1 B1 (.e k3 V tV k4 0 t2 k5 X tX k6 r) Q tQ) z) s'') p' s') :
   Mn (model prg (W3 w a b c)) R (cfΓ (rN1 (W3 w a b c) s B L K sl (.e k3 V tV k4 m tm k5 X tX k6 r) mt it tu 1 t1 t2 q p)) (cfp (rN1 (W3 w a b c) s B L K sl (.e k3 V tV k4 m tm k5 X tX k6 r) mt it tu 1 t1 t2 q p)) (cfκ (rN1 (W3 w a b c) s B L K sl (.e k3 V tV k4 m tm k5 X tX k6 r) mt it tu 1 t1 t2 q p)) (ansT (rN1 (W3 w a b c) s B L K sl (.e k3 V tV k4 m tm k5 X tX k6 r) mt it tu 1 t1 t2 q p) (.ok (.ret (.str Q tQ)))) s1 := by
 refine sn_call H 7 65 [] [0] (fun _ => [lawFr (W3 w a b c) K sl (.e k3 V tV k4 0 t2 k5 X tX k6 r)]) (fun _ => gFP Q tQ V tV 0 t2 (xM mt it L q ⟨798,22,798,61⟩)) true dsN rfl (by decide) ?_ ?_
 · cases a <;> (intro B1; kernel_rfl)
 · exact fun B1 s' p' hB h1 b1 => G B1 s' p' h1 b1
theorem lm3_1e  {X' : Str} {tX' : Nat} (H : HpW (W3 w a b c) s2.heap [(L, lawFr (W3 w a b c) K sl (.e k3 V tV k4 0 t2 k5 X tX k6 r))])
   (G : ∀ B2 s' p', s2.heap.objs.size = B2 + 1 → HpW (W3 w a b c) s'.heap [(L, lawFr (W3 w a b c) K sl (.e k3 V tV k4 0 t2 k5 X' tX' k6 r)), (B2 + 1, tupR), (B2 + 2, tuI (B2 + 1) 0)] → Beh [L] s2 s' → wpCode (model prg (W3 w a b c)) (gR (B2 + 2) mt it L q) (fun z s'' => Mn (model prg (W3 w a b c)) R (cfΓ (rN3 (W3 w a b c) s B L K sl (.e k3 V tV k4 m tm k5 X tX k6 r) mt it tu 1 t1 t2 q p s1 B1 (.e k3 V tV k4 0 t2 k5 X tX k6 r) Q tQ s2 B2 X' tX')) (cfp (rN3 (W3 w a b c) s B L K sl (.e k3 V tV k4 m tm k5 X tX k6 r) mt it tu 1 t1 t2 q p s1 B1 (.e k3 V tV k4 0 t2 k5 X tX k6 r) Q tQ s2 B2 X' tX')) (cfκ (rN3 (W3 w a b c) s B L K sl (.e k3 V tV k4 m tm k5 X tX k6 r) mt it tu 1 t1 t2 q p s1 B1 (.e k3 V tV k4 0 t2 k5 X tX k6 r) Q tQ s2 B2 X' tX')) (ansT (rN3 (W3 w a b c) s B L K sl (.e k3 V tV k4 m tm k5 X tX k6 r) mt it tu 1 t1 t2 q p s1 B1 (.e k3 V tV k4 0 t2 k5 X tX k6 r) Q tQ s2 B2 X' tX') z) s'') p' s') :
   Mn (model prg (W3 w a b c)) R (cfΓ (rN2 (W3 w a b c) s B L K sl (.e k3 V tV k4 m tm k5 X tX k6 r) mt it tu 1 t1 t2 q p s1 B1 (.e k3 V tV k4 0 t2 k5 X tX k6 r) Q tQ)) (cfp (rN2 (W3 w a b c) s B L K sl (.e k3 V tV k4 m tm k5 X tX k6 r) mt it tu 1 t1 t2 q p s1 B1 (.e k3 V tV k4 0 t2 k5 X tX k6 r) Q tQ)) (cfκ (rN2 (W3 w a b c) s B L K sl (.e k3 V tV k4 m tm k5 X tX k6 r) mt it tu 1 t1 t2 q p s1 B1 (.e k3 V tV k4 0 t2 k5 X tX k6 r) Q tQ)) (ansT (rN2 (W3 w a b c) s B L K sl (.e k3 V tV k4 m tm k5 X tX k6 r) mt it tu 1 t1 t2 q p s1 B1 (.e k3 V tV k4 0 t2 k5 X tX k6 r) Q tQ) (.ok (.ret (.str X' tX')))) s2 := by
 refine sn_call H 21 208306446401 [] [0,1,2] (fun B2 => [lawFr (W3 w a b c) K sl (.e k3 V tV k4 0 t2 k5 X' tX' k6 r), tupR, tuI (B2 + 1) 0]) (fun B2 => gR (B2 + 2) mt it L q) true dsN rfl (by decide) ?_ ?_
 · cases a <;> (intro B2; kernel_rfl)
 · exact fun B2 s' p' hB h1 b1 => G B2 s' p' hB h1 b1
theorem lm4_1e  {X' : Str} {tX' : Nat} (H : HpW (W3 w a b c) s3.heap []) (G : ∀ s' p', HpW (W3 w a b c) s'.heap [] → Beh [] s3 s' → wpCode (model prg (W3 w a b c)) (gM mt it L q) R p' s') :
   Mn (model prg (W3 w a b c)) R (cfΓ (rN3 (W3 w a b c) s B L K sl (.e k3 V tV k4 m tm k5 X tX k6 r) mt it tu 1 t1 t2 q p s1 B1 (.e k3 V tV k4 0 t2 k5 X tX k6 r) Q tQ s2 B2 X' tX')) (cfp (rN3 (W3 w a b c) s B L K sl (.e k3 V tV k4 m tm k5 X tX k6 r) mt it tu 1 t1 t2 q p s1 B1 (.e k3 V tV k4 0 t2 k5 X tX k6 r) Q tQ s2 B2 X' tX')) (cfκ (rN3 (W3 w a b c) s B L K sl (.e k3 V tV k4 m tm k5 X tX k6 r) mt it tu 1 t1 t2 q p s1 B1 (.e k3 V tV k4 0 t2 k5 X tX k6 r) Q tQ s2 B2 X' tX')) (ansT (rN3 (W3 w a b c) s B L K sl (.e k3 V tV k4 m tm k5 X tX k6 r) mt it tu 1 t1 t2 q p s1 B1 (.e k3 V tV k4 0 t2 k5 X tX k6 r) Q tQ s2 B2 X' tX') (.ok .next)) s3 := by
 refine sn_again H 0 0 [] [] (fun _ => []) (fun _ => gM mt it L q) dsN rfl (by decide) ?_ ?_
 · cases a <;> (intro B2; kernel_rfl)
 · exact fun B2 s' p' hB h1 b1 => G s' p' h1 b1
theorem lmE (H : HpW (W3 w a b c) s.heap [(L, lawFr (W3 w a b c) K sl (.e k3 V tV k4 m tm k5 X tX k6 r)), (mt, tuI tu 2), (tu, tupM t1 t2)]) (hR : ∀ s', HpW (W3 w a b c) s'.heap [(L, lawFr (W3 w a b c) K sl (.e k3 V tV k4 m tm k5 X tX k6 r))] → Beh [L, mt, tu] s s' → R (.ok .next) s') : wpCode (model prg (W3 w a b c)) (gM mt it L q) R p s := by
 refine code_mn (c := cM mt L) rfl (sn_ok H 17 1416311670841346 [] [0] (fun _ => [lawFr (W3 w a b c) K sl (.e k3 V tV k4 m tm k5 X tX k6 r)]) (fun _ => .next) dsN rfl (by decide) ?_ ?_)
 · cases a <;> (intro B; kernel_rfl)
 · exact fun B s' hB h1 b1 => hR s' h1 b1
theorem lr1_0d (H : HpW (W3 w a b c) s.heap [(L, lawFr (W3 w a b c) K sl (.d k3 V tV k4 m tm k5 X tX)), (rt, tuI tu 0), (tu, tupR)])
   (G : ∀ B s' p', HpW (W3 w a b c) s'.heap [(L, lawFr (W3 w a b c) K sl (.e k3 V tV k4 m tm k5 X tX s.toks false)), (rt, tuI tu 1), (tu, tupR)] → Beh [L, rt, tu] s s' → wpCode (model prg (W3 w a b c)) (gLR X tX false (xR rt mt it L q ⟨800,19,800,45⟩)) (fun z s'' => Mn (model prg (W3 w a b c)) R (cfΓ (rR1 (W3 w a b c) s B L K sl (.d k3 V tV k4 m tm k5 X tX) rt mt it tu 0 q p)) (cfp (rR1 (W3 w a b c) s B L K sl (.d k3 V tV k4 m tm k5 X tX) rt mt it tu 0 q p)) (cfκ (rR1 (W3 w a b c) s B L K sl (.d k3 V tV k4 m tm k5 X tX) rt mt it tu 0 q p)) (ansT (rR1 (W3 w a b c) s B L K sl (.d k3 V tV k4 m tm k5 X tX) rt mt it tu 0 q p) z) s'') p' s') :
   wpCode (model prg (W3 w a b c)) (gR rt mt it L q) R p s := by
 refine code_mn (c := cR rt L) rfl (sn_call H 27 4796171763974756900866 [] [0,1,2] (fun _ => [lawFr (W3 w a b c) K sl (.e k3 V tV k4 m tm k5 X tX s.toks false), tuI tu 1, tupR]) (fun _ => gLR X tX false (xR rt mt it L q ⟨800,19,800,45⟩)) true dsN rfl (by decide) ?_ ?_)
 · cases a <;> (intro B; kernel_rfl)
 · exact fun B s' p' hB h1 b1 => G B s' p' h1 b1
theorem lr2_0d {k6' : Nat} (hv : (∃ z, v1 = .ref z) ∨ ∃ t, v1 = .str sNoC t) (H : HpW (W3 w a b c) s1.heap [(L, lawFr (W3 w a b c) K sl1 (.e k3 V tV k4 m tm k5 X tX k6' false))])
   (G : ∀ B1 s' p', HpW (W3 w a b c) s'.heap [(L, lawFr (W3 w a b c) K sl1 (.e k3 V tV k4 m tm k5 X tX k6' false))] → Beh [L] s1 s' → wpCode (model prg (W3 w a b c)) (gDU K.N K.tN V tV m tm false (xR rt mt it L q ⟨800,49,800,85⟩)) (fun z s'' => Mn (model prg (W3 w a b c)) R (cfΓ (rR2 (W3 w a b c) s B L K sl (.d k3 V tV k4 m tm k5 X tX) rt mt it tu 0 q p s1 B1 sl1 (.e k3 V tV k4 m tm k5 X tX k6' false) v1)) (cfp (rR2 (W3 w a b c) s B L K sl (.d k3 V tV k4 m tm k5 X tX) rt mt it tu 0 q p s1 B1 sl1 (.e k3 V tV k4 m tm k5 X tX k6' false) v1)) (cfκ (rR2 (W3 w a b c) s B L K sl (.d k3 V tV k4 m tm k5 X tX) rt mt it tu 0 q p s1 B1 sl1 (.e k3 V tV k4 m tm k5 X tX k6' false) v1)) (ansT (rR2 (W3 w a b c) s B L K sl (.d k3 V tV k4 m tm k5 X tX) rt mt it tu 0 q p s1 B1 sl1 (.e k3 V tV k4 m tm k5 X tX k6' false) v1) z) s'') p' s') :
   Mn (model prg (W3 w a b c)) R (cfΓ (rR1 (W3 w a b c) s B L K sl (.d k3 V tV k4 m tm k5 X tX) rt mt it tu 0 q p)) (cfp (rR1 (W3 w a b c) s B L K sl (.d k3 V tV k4 m tm k5 X tX) rt mt it tu 0 q p)) (cfκ (rR1 (W3 w a b c) s B L K sl (.d k3 V tV k4 m tm k5 X tX) rt mt it tu 0 q p)) (ansT (rR1 (W3 w a b c) s B L K sl (.d k3 V tV k4 m tm k5 X tX) rt mt it tu 0 q p) (.ok (.ret v1))) s1 := by
 rcases hv with ⟨z, rfl⟩ | ⟨z, rfl⟩
 · refine sn_call H 13 17043520 [] [0] (fun _ => [lawFr (W3 w a b c) K sl1 (.e k3 V tV k4 m tm k5 X tX k6' false)]) (fun _ => gDU K.N K.tN V tV m tm false (xR rt mt it L q ⟨800,49,800,85⟩)) true dsN rfl (by decide) ?_ ?_
   · cases a <;> (intro B1; kernel_rfl)
   · exact fun B1 s' p' hB h1 b1 => G B1 s' p' h1 b1
 · refine sn_call H 13 17043520 [] [0] (fun _ => [lawFr (W3 w a b c) K sl1 (.e k3 V tV k4 m tm k5 X tX k6' false)]) (fun _ => gDU K.N K.tN V tV m tm false (xR rt mt it L q ⟨800,49,800,85⟩)) true dsN rfl (by decide) ?_ ?_
   · cases a <;> (intro B1; kernel_rfl)
   · exact fun B1 s' p' hB h1 b1 => G B1 s' p' h1 b1
theorem lr3_0d {k6' : Nat} (H : HpW (W3 w a b c) s2.heap [(u1, listO us c1), (u2, listO ws c2)])
   (G : ∀ B2 s' p', HpW (W3 w a b c) s'.heap [(u1, listO us c1), (u2, listO ws c2)] → Beh [u1, u2] s2 s' → wpCode (model prg (W3 w a b c)) ⟨.call (.builtin "list.__ne__") ⟨[.ref u1,.ref u2], []⟩, none, none, (xR rt mt it L q ⟨800,19,800,85⟩).l, none⟩ (fun z s'' => Mn (model prg (W3 w a b c)) R (cfΓ (rR3 (W3 w a b c) s B L K sl (.d k3 V tV k4 m tm k5 X tX) rt mt it tu 0 q p s1 B1 sl1 (.e k3 V tV k4 m tm k5 X tX k6' false) u1 us c1 s2 B2 u2 ws c2)) (cfp (rR3 (W3 w a b c) s B L K sl (.d k3 V tV k4 m tm k5 X tX) rt mt it tu 0 q p s1 B1 sl1 (.e k3 V tV k4 m tm k5 X tX k6' false) u1 us c1 s2 B2 u2 ws c2)) (cfκ (rR3 (W3 w a b c) s B L K sl (.d k3 V tV k4 m tm k5 X tX) rt mt it tu 0 q p s1 B1 sl1 (.e k3 V tV k4 m tm k5 X tX k6' false) u1 us c1 s2 B2 u2 ws c2)) (ansT (rR3 (W3 w a b c) s B L K sl (.d k3 V tV k4 m tm k5 X tX) rt mt it tu 0 q p s1 B1 sl1 (.e k3 V tV k4 m tm k5 X tX k6' false) u1 us c1 s2 B2 u2 ws c2) z) s'') p' s') :
   Mn (model prg (W3 w a b c)) R (cfΓ (rR2 (W3 w a b c) s B L K sl (.d k3 V tV k4 m tm k5 X tX) rt mt it tu 0 q p s1 B1 sl1 (.e k3 V tV k4 m tm k5 X tX k6' false) (.ref u1))) (cfp (rR2 (W3 w a b c) s B L K sl (.d k3 V tV k4 m tm k5 X tX) rt mt it tu 0 q p s1 B1 sl1 (.e k3 V tV k4 m tm k5 X tX k6' false) (.ref u1))) (cfκ (rR2 (W3 w a b c) s B L K sl (.d k3 V tV k4 m tm k5 X tX) rt mt it tu 0 q p s1 B1 sl1 (.e k3 V tV k4 m tm k5 X tX k6' false) (.ref u1))) (ansT (rR2 (W3 w a b c) s B L K sl (.d k3 V tV k4 m tm k5 X tX) rt mt it tu 0 q p s1 B1 sl1 (.e k3 V tV k4 m tm k5 X tX k6' false) (.ref u1)) (.ok (.ret (.ref u2)))) s2 := by
 refine sn_call H 7 4225 [] [0,1] (fun _ => [listO us c1, listO ws c2]) (fun _ => ⟨.call (.builtin "list.__ne__") ⟨[.ref u1,.ref u2], []⟩, none, none, (xR rt mt it L q ⟨800,19,800,85⟩).l, none⟩) true dsN rfl (by decide) ?_ ?_
 · cases a <;> (intro B2; kernel_rfl)
 · exact fun B2 s' p' hB h1 b1 => G B2 s' p' h1 b1
theorem lr4_0d {k6' : Nat} (H : HpW (W3 w a b c) s3.heap []) (G : ∀ s' p', HpW (W3 w a b c) s'.heap [] → Beh [] s3 s' → wpCode (model prg (W3 w a b c)) (gR rt mt it L q) R p' s') :
   Mn (model prg (W3 w a b c)) R (cfΓ (rR3 (W3 w a b c) s B L K sl (.d k3 V tV k4 m tm k5 X tX) rt mt it tu 0 q p s1 B1 sl1 (.e k3 V tV k4 m tm k5 X tX k6' false) u1 us c1 s2 B2 u2 ws c2)) (cfp (rR3 (W3 w a b c) s B L K sl (.d k3 V tV k4 m tm k5 X tX) rt mt it tu 0 q p s1 B1 sl1 (.e k3 V tV k4 m tm k5 X tX k6' false) u1 us c1 s2 B2 u2 ws c2)) (cfκ (rR3 (W3 w a b c) s B L K sl (.d k3 V tV k4 m tm k5 X tX) rt mt it tu 0 q p s1 B1 sl1 (.e k3 V tV k4 m tm k5 X tX k6' false) u1 us c1 s2 B2 u2 ws c2)) (ansT (rR3 (W3 w a b c) s B L K sl (.d k3 V tV k4 m tm k5 X tX) rt mt it tu 0 q p s1 B1 sl1 (.e k3 V tV k4 m tm k5 X tX k6' false) u1 us c1 s2 B2 u2 ws c2) (.ok (.ret (.bool false)))) s3 := by
 refine sn_again H 1 0 [] [] (fun _ => []) (fun _ => gR rt mt it L q) dsN rfl (by decide) ?_ ?_
 · cases a <;> (intro B2; kernel_rfl)
 · exact fun B2 s' p' hB h1 b1 => G s' p' h1 b1
theorem lr5_0d {k6' : Nat} (H : HpW (W3 w a b c) s2.heap []) (G : ∀ s' p', HpW (W3 w a b c) s'.heap [] → Beh [] s2 s' → wpCode (model prg (W3 w a b c)) (gR rt mt it L q) R p' s') :
   Mn (model prg (W3 w a b c)) R (cfΓ (rR2 (W3 w a b c) s B L K sl (.d k3 V tV k4 m tm k5 X tX) rt mt it tu 0 q p s1 B1 sl1 (.e k3 V tV k4 m tm k5 X tX k6' false) (.str sNoC t1))) (cfp (rR2 (W3 w a b c) s B L K sl (.d k3 V tV k4 m tm k5 X tX) rt mt it tu 0 q p s1 B1 sl1 (.e k3 V tV k4 m tm k5 X tX k6' false) (.str sNoC t1))) (cfκ (rR2 (W3 w a b c) s B L K sl (.d k3 V tV k4 m tm k5 X tX) rt mt it tu 0 q p s1 B1 sl1 (.e k3 V tV k4 m tm k5 X tX k6' false) (.str sNoC t1))) (ansT (rR2 (W3 w a b c) s B L K sl (.d k3 V tV k4 m tm k5 X tX) rt mt it tu 0 q p s1 B1 sl1 (.e k3 V tV k4 m tm k5 X tX k6' false) (.str sNoC t1)) (.ok (.ret (.str sNoC t2)))) s2 := by
 refine sn_again H 4 2 [(false, false)] [] (fun _ => []) (fun _ => gR rt mt it L q) (dsC rfl dsN) rfl (by decide) ?_ ?_
 · cases a <;> (intro B2; kernel_rfl)
 · exact fun B2 s' p' hB h1 b1 => G s' p' h1 b1
theorem lr1_0e (H : HpW (W3 w a b c) s.heap [(L, lawFr (W3 w a b c) K sl (.e k3 V tV k4 m tm k5 X tX k6 r)), (rt, tuI tu 0), (tu, tupR)])
   (G : ∀ B s' p', HpW (W3 w a b c) s'.heap [(L, lawFr (W3 w a b c) K sl (.e k3 V tV k4 m tm k5 X tX k6 false)), (rt, tuI tu 1), (tu, tupR)] → Beh [L, rt, tu] s s' → wpCode (model prg (W3 w a b c)) (gLR X tX false (xR rt mt it L q ⟨800,19,800,45⟩)) (fun z s'' => Mn (model prg (W3 w a b c)) R (cfΓ (rR1 (W3 w a b c) s B L K sl (.e k3 V tV k4 m tm k5 X tX k6 r) rt mt it tu 0 q p)) (cfp (rR1 (W3 w a b c) s B L K sl (.e k3 V tV k4 m tm k5 X tX k6 r) rt mt it tu 0 q p)) (cfκ (rR1 (W3 w a b c) s B L K sl (.e k3 V tV k4 m tm k5 X tX k6 r) rt mt it tu 0 q p)) (ansT (rR1 (W3 w a b c) s B L K sl (.e k3 V tV k4 m tm k5 X tX k6 r) rt mt it tu 0 q p) z) s'') p' s') :
   wpCode (model prg (W3 w a b c)) (gR rt mt it L q) R p s := by
 refine code_mn (c := cR rt L) rfl (sn_call H 27 4796171763974756900866 [] [0,1,2] (fun _ => [lawFr (W3 w a b c) K sl (.e k3 V tV k4 m tm k5 X tX k6 false), tuI tu 1, tupR]) (fun _ => gLR X tX false (xR rt mt it L q ⟨800,19,800,45⟩)) true dsN rfl (by decide) ?_ ?_)
 · cases a <;> (intro B; kernel_rfl)
 · exact fun B s' p' hB h1 b1 => G B s' p' h1 b1
theorem lr2_0e  (hv : (∃ z, v1 = .ref z) ∨ ∃ t, v1 = .str sNoC t) (H : HpW (W3 w a b c) s1.heap [(L, lawFr (W3 w a b c) K sl1 (.e k3 V tV k4 m tm k5 X tX k6 false))])
   (G : ∀ B1 s' p', HpW (W3 w a b c) s'.heap [(L, lawFr (W3 w a b c) K sl1 (.e k3 V tV k4 m tm k5 X tX k6 false))] → Beh [L] s1 s' → wpCode (model prg (W3 w a b c)) (gDU K.N K.tN V tV m tm false (xR rt mt it L q ⟨800,49,800,85⟩)) (fun z s'' => Mn (model prg (W3 w a b c)) R (cfΓ (rR2 (W3 w a b c) s B L K sl (.e k3 V tV k4 m tm k5 X tX k6 r) rt mt it tu 0 q p s1 B1 sl1 (.e k3 V tV k4 m tm k5 X tX k6 false) v1)) (cfp (rR2 (W3 w a b c) s B L K sl (.e k3 V tV k4 m tm k5 X tX k6 r) rt mt it tu 0 q p s1 B1 sl1 (.e k3 V tV k4 m tm k5 X tX k6 false) v1)) (cfκ (rR2 (W3 w a b c) s B L K sl (.e k3 V tV k4 m tm k5 X tX k6 r) rt mt it tu 0 q p s1 B1 sl1 (.e k3 V tV k4 m tm k5 X tX k6 false) v1)) (ansT (rR2 (W3 w a b c) s B L K sl (.e k3 V tV k4 m tm k5 X tX k6 r) rt mt it tu 0 q p s1 B1 sl1 (.e k3 V tV k4 m tm k5 X tX k6 false) v1) z) s'') p' s') :
   Mn (model prg (W3 w a b c)) R (cfΓ (rR1 (W3 w a b c) s B L K sl (.e k3 V tV k4 m tm k5 X tX k6 r) rt mt it tu 0 q p)) (cfp (rR1 (W3 w a b c) s B L K sl (.e k3 V tV k4 m tm k5 X tX k6 r) rt mt it tu 0 q p)) (cfκ (rR1 (W3 w a b c) s B L K sl (.e k3 V tV k4 m tm k5 X tX k6 r) rt mt it tu 0 q p)) (ansT (rR1 (W3 w a b c) s B L K sl (.e k3 V tV k4 m tm k5 X tX k6 r) rt mt it tu 0 q p) (.ok (.ret v1))) s1 := by
 rcases hv with ⟨z, rfl⟩ | ⟨z, rfl⟩
 · refine sn_call H 13 17043520 [] [0] (fun _ => [lawFr (W3 w a b c) K sl1 (.e k3 V tV k4 m tm k5 X tX k6 false)]) (fun _ => gDU K.N K.tN V tV m tm false (xR rt mt it L q ⟨800,49,800,85⟩)) true dsN rfl (by decide) ?_ ?_
   · cases a <;> (intro B1; kernel_rfl)
   · exact fun B1 s' p' hB h1 b1 => G B1 s' p' h1 b1
 · refine sn_call H 13 17043520 [] [0] (fun _ => [lawFr (W3 w a b c) K sl1 (.e k3 V tV k4 m tm k5 X tX k6 false)]) (fun _ => gDU K.N K.tN V tV m tm false (xR rt mt it L q ⟨800,49,800,85⟩)) true dsN rfl (by decide) ?_ ?_
   · cases a <;> (intro B1; kernel_rfl)
   · exact fun B1 s' p' hB h1 b1 => G B1 s' p' h1 b1
theorem lr3_0e  (H : HpW (W3 w a b c) s2.heap [(u1, listO us c1), (u2, listO ws c2)])
   (G : ∀ B2 s' p', HpW (W3 w a b c) s'.heap [(u1, listO us c1), (u2, listO ws c2)] → Beh [u1, u2] s2 s' → wpCode (model prg (W3 w a b c)) ⟨.call (.builtin "list.__ne__") ⟨[.ref u1,.ref u2], []⟩, none, none, (xR rt mt it L q ⟨800,19,800,85⟩).l, none⟩ (fun z s'' => Mn (model prg (W3 w a b c)) R (cfΓ (rR3 (W3 w a b c) s B L K sl (.e k3 V tV k4 m tm k5 X tX k6 r) rt mt it tu 0 q p s1 B1 sl1 (.e k3 V tV k4 m tm k5 X tX k6 false) u1 us c1 s2 B2 u2 ws c2)) (cfp (rR3 (W3 w a b c) s B L K sl (.e k3 V tV k4 m tm k5 X tX k6 r) rt mt it tu 0 q p s1 B1 sl1 (.e k3 V tV k4 m tm k5 X tX k6 false) u1 us c1 s2 B2 u2 ws c2)) (cfκ (rR3 (W3 w a b c) s B L K sl (.e k3 V tV k4 m tm k5 X tX k6 r) rt mt it tu 0 q p s1 B1 sl1 (.e k3 V tV k4 m tm k5 X tX k6 false) u1 us c1 s2 B2 u2 ws c2)) (ansT (rR3 (W3 w a b c) s B L K sl (.e k3 V tV k4 m tm k5 X tX k6 r) rt mt it tu 0 q p s1 B1 sl1 (.e k3 V tV k4 m tm k5 X tX k6 false) u1 us c1 s2 B2 u2 ws c2) z) s'') p' s') :
   Mn (model prg (W3 w a b c)) R (cfΓ (rR2 (W3 w a b c) s B L K sl (.e k3 V tV k4 m tm k5 X tX k6 r) rt mt it tu 0 q p s1 B1 sl1 (.e k3 V tV k4 m tm k5 X tX k6 false) (.ref u1))) (cfp (rR2 (W3 w a b c) s B L K sl (.e k3 V tV k4 m tm k5 X tX k6 r) rt mt it tu 0 q p s1 B1 sl1 (.e k3 V tV k4 m tm k5 X tX k6 false) (.ref u1))) (cfκ (rR2 (W3 w a b c) s B L K sl (.e k3 V tV k4 m tm k5 X tX k6 r) rt mt it tu 0 q p s1 B1 sl1 (.e k3 V tV k4 m tm k5 X tX k6 false) (.ref u1))) (ansT (rR2 (W3 w a b c) s B L K sl (.e k3 V tV k4 m tm k5 X tX k6 r) rt mt it tu 0 q p s1 B1 sl1 (.e k3 V tV k4 m tm k5 X tX k6 false) (.ref u1)) (.ok (.ret (.ref u2)))) s2 := by
 refine sn_call H 7 4225 [] [0,1] (fun _ => [listO us c1, listO ws c2]) (fun _ => ⟨.call (.builtin "list.__ne__") ⟨[.ref u1,.ref u2], []⟩, none, none, (xR rt mt it L q ⟨800,19,800,85⟩).l, none⟩) true dsN rfl (by decide) ?_ ?_
 · cases a <;> (intro B2; kernel_rfl)
 · exact fun B2 s' p' hB h1 b1 => G B2 s' p' h1 b1
theorem lr4_0e  (H : HpW (W3 w a b c) s3.heap []) (G : ∀ s' p', HpW (W3 w a b c) s'.heap [] → Beh [] s3 s' → wpCode (model prg (W3 w a b c)) (gR rt mt it L q) R p' s') :
   Mn (model prg (W3 w a b c)) R (cfΓ (rR3 (W3 w a b c) s B L K sl (.e k3 V tV k4 m tm k5 X tX k6 r) rt mt it tu 0 q p s1 B1 sl1 (.e k3 V tV k4 m tm k5 X tX k6 false) u1 us c1 s2 B2 u2 ws c2)) (cfp (rR3 (W3 w a b c) s B L K sl (.e k3 V tV k4 m tm k5 X tX k6 r) rt mt it tu 0 q p s1 B1 sl1 (.e k3 V tV k4 m tm k5 X tX k6 false) u1 us c1 s2 B2 u2 ws c2)) (cfκ (rR3 (W3 w a b c) s B L K sl (.e k3 V tV k4 m tm k5 X tX k6 r) rt mt it tu 0 q p s1 B1 sl1 (.e k3 V tV k4 m tm k5 X tX k6 false) u1 us c1 s2 B2 u2 ws c2)) (ansT (rR3 (W3 w a b c) s B L K sl (.e k3 V tV k4 m tm k5 X tX k6 r) rt mt it tu 0 q p s1 B1 sl1 (.e k3 V tV k4 m tm k5 X tX k6 false) u1 us c1 s2 B2 u2 ws c2) (.ok (.ret (.bool false)))) s3 := by
 refine sn_again H 1 0 [] [] (fun _ => []) (fun _ => gR rt mt it L q) dsN rfl (by decide) ?_ ?_
 · cases a <;> (intro B2; kernel_rfl)
 · exact fun B2 s' p' hB h1 b1 => G s' p' h1 b1
theorem lr5_0e  (H : HpW (W3 w a b c) s2.heap []) (G : ∀ s' p', HpW (W3 w a b c) s'.heap [] → Beh [] s2 s' → wpCode (model prg (W3 w a b c)) (gR rt mt it L q) R p' s') :
   Mn (model prg (W3 w a b c)) R (cfΓ (rR2 (W3 w a b c) s B L K sl (.e k3 V tV k4 m tm k5 X tX k6 r) rt mt it tu 0 q p s1 B1 sl1 (.e k3 V tV k4 m tm k5 X tX k6 false) (.str sNoC t1))) (cfp (rR2 (W3 w a b c) s B L K sl (.e k3 V tV k4 m tm k5 X tX k6 r) rt mt it tu 0 q p s1 B1 sl1 (.e k3 V tV k4 m tm k5 X tX k6 false) (.str sNoC t1))) (cfκ (rR2 (W3 w a b c) s B L K sl (.e k3 V tV k4 m tm k5 X tX k6 r) rt mt it tu 0 q p s1 B1 sl1 (.e k3 V tV k4 m tm k5 X tX k6 false) (.str sNoC t1))) (ansT (rR2 (W3 w a b c) s B L K sl (.e k3 V tV k4 m tm k5 X tX k6 r) rt mt it tu 0 q p s1 B1 sl1 (.e k3 V tV k4 m tm k5 X tX k6 false) (.str sNoC t1)) (.ok (.ret (.str sNoC t2)))) s2 := by
 refine sn_again H 4 2 [(false, false)] [] (fun _ => []) (fun _ => gR rt mt it L q) (dsC rfl dsN) rfl (by decide) ?_ ?_
 · cases a <;> (intro B2; kernel_rfl)
 · exact fun B2 s' p' hB h1 b1 => G s' p' h1 b1
theorem lr1_1e (H : HpW (W3 w a b c) s.heap [(L, lawFr (W3 w a b c) K sl (.e k3 V tV k4 m tm k5 X tX k6 r)), (rt, tuI tu 1), (tu, tupR)])
   (G : ∀ B s' p', HpW (W3 w a b c) s'.heap [(L, lawFr (W3 w a b c) K sl (.e k3 V tV k4 m tm k5 X tX k6 true)), (rt, tuI tu 2), (tu, tupR)] → Beh [L, rt, tu] s s' → wpCode (model prg (W3 w a b c)) (gLR X tX true (xR rt mt it L q ⟨800,19,800,45⟩)) (fun z s'' => Mn (model prg (W3 w a b c)) R (cfΓ (rR1 (W3 w a b c) s B L K sl (.e k3 V tV k4 m tm k5 X tX k6 r) rt mt it tu 1 q p)) (cfp (rR1 (W3 w a b c) s B L K sl (.e k3 V tV k4 m tm k5 X tX k6 r) rt mt it tu 1 q p)) (cfκ (rR1 (W3 w a b c) s B L K sl (.e k3 V tV k4 m tm k5 X tX k6 r) rt mt it tu 1 q p)) (ansT (rR1 (W3 w a b c) s B L K sl (.e k3 V tV k4 m tm k5 X tX k6 r) rt mt it tu 1 q p) z) s'') p' s') :
   wpCode (model prg (W3 w a b c)) (gR rt mt it L q) R p s := by
 refine code_mn (c := cR rt L) rfl (sn_call H 27 4796171763974756900866 [] [0,1,2] (fun _ => [lawFr (W3 w a b c) K sl (.e k3 V tV k4 m tm k5 X tX k6 true), tuI tu 2, tupR]) (fun _ => gLR X tX true (xR rt mt it L q ⟨800,19,800,45⟩)) true dsN rfl (by decide) ?_ ?_)
 · cases a <;> (intro B; kernel_rfl)
 · exact fun B s' p' hB h1 b1 => G B s' p' h1 b1
theorem lr2_1e  (hv : (∃ z, v1 = .ref z) ∨ ∃ t, v1 = .str sNoC t) (H : HpW (W3 w a b c) s1.heap [(L, lawFr (W3 w a b c) K sl1 (.e k3 V tV k4 m tm k5 X tX k6 true))])
   (G : ∀ B1 s' p', HpW (W3 w a b c) s'.heap [(L, lawFr (W3 w a b c) K sl1 (.e k3 V tV k4 m tm k5 X tX k6 true))] → Beh [L] s1 s' → wpCode (model prg (W3 w a b c)) (gDU K.N K.tN V tV m tm true (xR rt mt it L q ⟨800,49,800,85⟩)) (fun z s'' => Mn (model prg (W3 w a b c)) R (cfΓ (rR2 (W3 w a b c) s B L K sl (.e k3 V tV k4 m tm k5 X tX k6 r) rt mt it tu 1 q p s1 B1 sl1 (.e k3 V tV k4 m tm k5 X tX k6 true) v1)) (cfp (rR2 (W3 w a b c) s B L K sl (.e k3 V tV k4 m tm k5 X tX k6 r) rt mt it tu 1 q p s1 B1 sl1 (.e k3 V tV k4 m tm k5 X tX k6 true) v1)) (cfκ (rR2 (W3 w a b c) s B L K sl (.e k3 V tV k4 m tm k5 X tX k6 r) rt mt it tu 1 q p s1 B1 sl1 (.e k3 V tV k4 m tm k5 X tX k6 true) v1)) (ansT (rR2 (W3 w a b c) s B L K sl (.e k3 V tV k4 m tm k5 X tX k6 r) rt mt it tu 1 q p s1 B1 sl1 (.e k3 V tV k4 m tm k5 X tX k6 true) v1) z) s'') p' s') :
   Mn (model prg (W3 w a b c)) R (cfΓ (rR1 (W3 w a b c) s B L K sl (.e k3 V tV k4 m tm k5 X tX k6 r) rt mt it tu 1 q p)) (cfp (rR1 (W3 w a b c) s B L K sl (.e k3 V tV k4 m tm k5 X tX k6 r) rt mt it tu 1 q p)) (cfκ (rR1 (W3 w a b c) s B L K sl (.e k3 V tV k4 m tm k5 X tX k6 r) rt mt it tu 1 q p)) (ansT (rR1 (W3 w a b c) s B L K sl (.e k3 V tV k4 m tm k5 X tX k6 r) rt mt it tu 1 q p) (.ok (.ret v1))) s1 := by
 rcases hv with ⟨z, rfl⟩ | ⟨z, rfl⟩
 · refine sn_call H 13 17043520 [] [0] (fun _ => [lawFr (W3 w a b c) K sl1 (.e k3 V tV k4 m tm k5 X tX k6 true)]) (fun _ => gDU K.N K.tN V tV m tm true (xR rt mt it L q ⟨800,49,800,85⟩)) true dsN rfl (by decide) ?_ ?_
   · cases a <;> (intro B1; kernel_rfl)
   · exact fun B1 s' p' hB h1 b1 => G B1 s' p' h1 b1
 · refine sn_call H 13 17043520 [] [0] (fun _ => [lawFr (W3 w a b c) K sl1 (.e k3 V tV k4 m tm k5 X tX k6 true)]) (fun _ => gDU K.N K.tN V tV m tm true (xR rt mt it L q ⟨800,49,800,85⟩)) true dsN rfl (by decide) ?_ ?_
   · cases a <;> (intro B1; kernel_rfl)
   · exact fun B1 s' p' hB h1 b1 => G B1 s' p' h1 b1
theorem lr3_1e  (H : HpW (W3 w a b c) s2.heap [(u1, listO us c1), (u2, listO ws c2)])
   (G : ∀ B2 s' p', HpW (W3 w a b c) s'.heap [(u1, listO us c1), (u2, listO ws c2)] → Beh [u1, u2] s2 s' → wpCode (model prg (W3 w a b c)) ⟨.call (.builtin "list.__ne__") ⟨[.ref u1,.ref u2], []⟩, none, none, (xR rt mt it L q ⟨800,19,800,85⟩).l, none⟩ (fun z s'' => Mn (model prg (W3 w a b c)) R (cfΓ (rR3 (W3 w a b c) s B L K sl (.e k3 V tV k4 m tm k5 X tX k6 r) rt mt it tu 1 q p s1 B1 sl1 (.e k3 V tV k4 m tm k5 X tX k6 true) u1 us c1 s2 B2 u2 ws c2)) (cfp (rR3 (W3 w a b c) s B L K sl (.e k3 V tV k4 m tm k5 X tX k6 r) rt mt it tu 1 q p s1 B1 sl1 (.e k3 V tV k4 m tm k5 X tX k6 true) u1 us c1 s2 B2 u2 ws c2)) (cfκ (rR3 (W3 w a b c) s B L K sl (.e k3 V tV k4 m tm k5 X tX k6 r) rt mt it tu 1 q p s1 B1 sl1 (.e k3 V tV k4 m tm k5 X tX k6 true) u1 us c1 s2 B2 u2 ws c2)) (ansT (rR3 (W3 w a b c) s B L K sl (.e k3 V tV k4 m tm k5 X tX k6 r) rt mt it tu 1 q p s1 B1 sl1 (.e k3 V tV k4 m tm k5 X tX k6 true) u1 us c1 s2 B2 u2 ws c2) z) s'') p' s') :
   Mn (model prg (W3 w a b c)) R (cfΓ (rR2 (W3 w a b c) s B L K sl (.e k3 V tV k4 m tm k5 X tX k6 r) rt mt it tu 1 q p s1 B1 sl1 (.e k3 V tV k4 m tm k5 X tX k6 true) (.ref u1))) (cfp (rR2 (W3 w a b c) s B L K sl (.e k3 V tV k4 m tm k5 X tX k6 r) rt mt it tu 1 q p s1 B1 sl1 (.e k3 V tV k4 m tm k5 X tX k6 true) (.ref u1))) (cfκ (rR2 (W3 w a b c) s B L K sl (.e k3 V tV k4 m tm k5 X tX k6 r) rt mt it tu 1 q p s1 B1 sl1 (.e k3 V tV k4 m tm k5 X tX k6 true) (.ref u1))) (ansT (rR2 (W3 w a b c) s B L K sl (.e k3 V tV k4 m tm k5 X tX k6 r) rt mt it tu 1 q p s1 B1 sl1 (.e k3 V tV k4 m tm k5 X tX k6 true) (.ref u1)) (.ok (.ret (.ref u2)))) s2 := by
 refine sn_call H 7 4225 [] [0,1] (fun _ => [listO us c1, listO ws c2]) (fun _ => ⟨.call (.builtin "list.__ne__") ⟨[.ref u1,.ref u2], []⟩, none, none, (xR rt mt it L q ⟨800,19,800,85⟩).l, none⟩) true dsN rfl (by decide) ?_ ?_
 · cases a <;> (intro B2; kernel_rfl)
 · exact fun B2 s' p' hB h1 b1 => G B2 s' p' h1 b1
theorem lr4_1e  (H : HpW (W3 w a b c) s3.heap []) (G : ∀ s' p', HpW (W3 w a b c) s'.heap [] → Beh [] s3 s' → wpCode (model prg (W3 w a b c)) (gR rt mt it L q) R p' s') :
   Mn (model prg (W3 w a b c)) R (cfΓ (rR3 (W3 w a b c) s B L K sl (.e k3 V tV k4 m tm k5 X tX k6 r) rt mt it tu 1 q p s1 B1 sl1 (.e k3 V tV k4 m tm k5 X tX k6 true) u1 us c1 s2 B2 u2 ws c2)) (cfp (rR3 (W3 w a b c) s B L K sl (.e k3 V tV k4 m tm k5 X tX k6 r) rt mt it tu 1 q p s1 B1 sl1 (.e k3 V tV k4 m tm k5 X tX k6 true) u1 us c1 s2 B2 u2 ws c2)) (cfκ (rR3 (W3 w a b c) s B L K sl (.e k3 V tV k4 m tm k5 X tX k6 r) rt mt it tu 1 q p s1 B1 sl1 (.e k3 V tV k4 m tm k5 X tX k6 true) u1 us c1 s2 B2 u2 ws c2)) (ansT (rR3 (W3 w a b c) s B L K sl (.e k3 V tV k4 m tm k5 X tX k6 r) rt mt it tu 1 q p s1 B1 sl1 (.e k3 V tV k4 m tm k5 X tX k6 true) u1 us c1 s2 B2 u2 ws c2) (.ok (.ret (.bool false)))) s3 := by
 refine sn_again H 1 0 [] [] (fun _ => []) (fun _ => gR rt mt it L q) dsN rfl (by decide) ?_ ?_
 · cases a <;> (intro B2; kernel_rfl)
 · exact fun B2 s' p' hB h1 b1 => G s' p' h1 b1
theorem lr5_1e  (H : HpW (W3 w a b c) s2.heap []) (G : ∀ s' p', HpW (W3 w a b c) s'.heap [] → Beh [] s2 s' → wpCode (model prg (W3 w a b c)) (gR rt mt it L q) R p' s') :
   Mn (model prg (W3 w a b c)) R (cfΓ (rR2 (W3 w a b c) s B L K sl (.e k3 V tV k4 m tm k5 X tX k6 r) rt mt it tu 1 q p s1 B1 sl1 (.e k3 V tV k4 m tm k5 X tX k6 true) (.str sNoC t1))) (cfp (rR2 (W3 w a b c) s B L K sl (.e k3 V tV k4 m tm k5 X tX k6 r) rt mt it tu 1 q p s1 B1 sl1 (.e k3 V tV k4 m tm k5 X tX k6 true) (.str sNoC t1))) (cfκ (rR2 (W3 w a b c) s B L K sl (.e k3 V tV k4 m tm k5 X tX k6 r) rt mt it tu 1 q p s1 B1 sl1 (.e k3 V tV k4 m tm k5 X tX k6 true) (.str sNoC t1))) (ansT (rR2 (W3 w a b c) s B L K sl (.e k3 V tV k4 m tm k5 X tX k6 r) rt mt it tu 1 q p s1 B1 sl1 (.e k3 V tV k4 m tm k5 X tX k6 true) (.str sNoC t1)) (.ok (.ret (.str sNoC t2)))) s2 := by
 refine sn_again H 4 2 [(false, false)] [] (fun _ => []) (fun _ => gR rt mt it L q) (dsC rfl dsN) rfl (by decide) ?_ ?_
 · cases a <;> (intro B2; kernel_rfl)
 · exact fun B2 s' p' hB h1 b1 => G s' p' h1 b1
theorem lrE (H : HpW (W3 w a b c) s.heap [(L, lawFr (W3 w a b c) K sl (.e k3 V tV k4 m tm k5 X tX k6 r)), (rt, tuI tu 2), (tu, tupR)]) (hR : ∀ s', HpW (W3 w a b c) s'.heap [(L, lawFr (W3 w a b c) K sl (.e k3 V tV k4 m tm k5 X tX k6 r))] → Beh [L, rt, tu] s s' → R (.ok .next) s') : wpCode (model prg (W3 w a b c)) (gR rt mt it L q) R p s := by
 refine code_mn (c := cR rt L) rfl (sn_ok H 17 1416311670841346 [] [0] (fun _ => [lawFr (W3 w a b c) K sl (.e k3 V tV k4 m tm k5 X tX k6 r)]) (fun _ => .next) dsN rfl (by decide) ?_ ?_)
 · cases a <;> (intro B; kernel_rfl)
 · exact fun B s' hB h1 b1 => hR s' h1 b1
end
end Mine
end
section
namespace Mine
open PySem PySem.W PySem.Calls
noncomputable def Plain : Prop := ∀ (n v : List Nat) (mk rm : Bool), n.length ≤ 12 → v.length ≤ 12 → match dueF (bareM rm .out (some (n ++ [61])) v) n v mk with
 | some ts => Toks rm (fmtF (quoteF n) v mk) ts false ∧ ts.length ≤ 1000
 | none => ∃ ts, Toks rm (fmtF (quoteF n) v mk) ts true ∧ ts.length ≤ 1000
theorem lw_kind (L : Nat) : (envLW L).scope.kind ≠ .module := by
 have h : (envLW L).scope.kind = .function := by kernel_rfl
 rw [h]; intro e; cases e
theorem lw_nf {w : World} {L : Nat} {K : LwK} {sl : Array (Option Value)} {st : LS} : NoFields [(L, lawFr w K sl st)] := fun x hx vs h => by
 rw [List.mem_singleton.mp hx] at h
 cases st <;> cases h
theorem lw_fo {w : World} {L : Nat} {K : LwK} {sl : Array (Option Value)} {st : LS} : FrOk [envLW L] [(L, lawFr w K sl st)] := fun env he => by
 rw [List.mem_singleton.mp he]
 exact ⟨lw_kind L, _, List.mem_singleton.mpr rfl, rfl⟩
theorem lw_re {w : World} {L : Nat} {K : LwK} {sl : Array (Option Value)} {st : LS} (f : Nat → Array (Option Value)) : reS f [(L, lawFr w K sl st)] = [(L, lawFr w K (f L) st)] := by
 cases st <;> rfl
theorem quote_len {n : List Nat} (h : n.length ≤ 12) : (quoteF n).length ≤ 70 := by
 have := subst_length 39 [39,34,39,34,39] 5 (by decide) (by decide) n
 unfold quoteF
 split
 · simp
 · split
   · simp only [List.length_append, List.length_singleton]; omega
   · omega
theorem fmt_len {P v : List Nat} {mk : Bool} (hP : P.length ≤ 70) (h : v.length ≤ 12) : (fmtF P v mk).length ≤ 1000 := by
 obtain ⟨le1, le2⟩ := esc_len h
 unfold fmtF
 split
 · omega
 · split
   · simp only [List.length_append, List.length_cons, List.length_nil]; omega
   · simp only [List.length_append, List.length_singleton]; omega
section
variable {w : World} {a b c mk : Bool} {s : Shared} {L it mt rt tu t1 t2 sc u tN k0 k1 k2 k3 k4 k5 k6 tV tm tX : Nat} {n v : List Nat} {X : Str} {r : Bool} {sl : Array (Option Value)} {m : Int} {q p : Pos} {R : Result → Shared → Prop}
theorem rb_0d (PL : Plain) (hn : n.length ≤ 12) (hv : v.length ≤ 12) (H : HpW (W3 w a b c) s.heap [(L, lawFr (W3 w a b c) ⟨sc, u, ⟨⟨n⟩⟩, tN, k0, k1, k2⟩ sl (.d k3 ⟨⟨v⟩⟩ tV k4 (if mk then 1 else 0) tm k5 ⟨⟨fmtF (quoteF n) v mk⟩⟩ tX)), (rt, tuI tu 0), (tu, tupR)])
   (Q : (∀ s' p' sl' k6', HpW (W3 w a b c) s'.heap [(L, lawFr (W3 w a b c) ⟨sc, u, ⟨⟨n⟩⟩, tN, k0, k1, k2⟩ sl' (.e k3 ⟨⟨v⟩⟩ tV k4 (if mk then 1 else 0) tm k5 ⟨⟨fmtF (quoteF n) v mk⟩⟩ tX k6' false)), (rt, tuI tu 1), (tu, tupR)] → Beh [L, rt, tu] s s' → wpCode (model prg (W3 w a b c)) (gR rt mt it L q) R p' s')) : wpCode (model prg (W3 w a b c)) (gR rt mt it L q) R p s := by
 refine lr1_0d H fun B s1 p1 h1 b1 => ?_
 have D1 : Dead s s1 := dead_of b1 fun z hz => hp_live h1 hz
 have hlen : (⟨⟨fmtF (quoteF n) v mk⟩⟩ : Str).length ≤ 1000 := fmt_len (quote_len hn) hv
 have hP := PL n v mk false hn hv
 cases hd : dueF (bareM false .out (some (n ++ [61])) v) n v mk with
 | some ts =>
   rw [hd] at hP
   obtain ⟨T, tl⟩ := hP
   refine lr_spec (Fr := [(L, lawFr (W3 w a b c) ⟨sc, u, ⟨⟨n⟩⟩, tN, k0, k1, k2⟩ sl (.e k3 ⟨⟨v⟩⟩ tV k4 (if mk then 1 else 0) tm k5 ⟨⟨fmtF (quoteF n) v mk⟩⟩ tX s.toks false))]) (Hp.part (A := [(L, lawFr (W3 w a b c) ⟨sc, u, ⟨⟨n⟩⟩, tN, k0, k1, k2⟩ sl (.e k3 ⟨⟨v⟩⟩ tV k4 (if mk then 1 else 0) tm k5 ⟨⟨fmtF (quoteF n) v mk⟩⟩ tX s.toks false))]) h1) lw_nf lw_fo hlen tl T ?_
   intro s2 f u1 us c1 iv d1 h2 b2 d2
   have HJ2 := Hp.join2 (A := [(L, lawFr (W3 w a b c) ⟨sc, u, ⟨⟨n⟩⟩, tN, k0, k1, k2⟩ sl (.e k3 ⟨⟨v⟩⟩ tV k4 (if mk then 1 else 0) tm k5 ⟨⟨fmtF (quoteF n) v mk⟩⟩ tX s.toks false))]) (C := [(rt, tuI tu 1), (tu, tupR)]) h1 h2 b2 (fun z hz => .inl hz) (fun z hz => by
     rw [lw_re] at hz
     rcases List.mem_append.mp hz with hz | hz
     · rw [List.mem_singleton.mp hz]; exact .inl (by simp)
     · rw [List.mem_singleton.mp hz]; exact .inr d1)
   rw [lw_re] at HJ2
   refine lr2_0d (sl1 := f L) (.inl ⟨u1, rfl⟩) (Hp.part (A := [(L, lawFr (W3 w a b c) ⟨sc, u, ⟨⟨n⟩⟩, tN, k0, k1, k2⟩ (f L) (.e k3 ⟨⟨v⟩⟩ tV k4 (if mk then 1 else 0) tm k5 ⟨⟨fmtF (quoteF n) v mk⟩⟩ tX s.toks false))]) (C := (u1, listO us c1) :: [(rt, tuI tu 1), (tu, tupR)]) HJ2) fun B1 s3 p3 h3 b3 => ?_
   have HJ3 := Hp.join (A := [(L, lawFr (W3 w a b c) ⟨sc, u, ⟨⟨n⟩⟩, tN, k0, k1, k2⟩ (f L) (.e k3 ⟨⟨v⟩⟩ tV k4 (if mk then 1 else 0) tm k5 ⟨⟨fmtF (quoteF n) v mk⟩⟩ tX s.toks false))]) (C := (u1, listO us c1) :: [(rt, tuI tu 1), (tu, tupR)]) HJ2 h3 b3 rfl
   refine du_full (mk := mk) HJ3.nil (by omega) (by omega) ?_
   rw [hd]
   intro s4 u2 ws c2 iw h4 b4 d4
   have HJ4 := Hp.new HJ3 h4 b4 fun z hz => by rw [List.mem_singleton.mp hz]; exact d4
   have HP4 : HpW (W3 w a b c) s4.heap ([(u1, listO us c1), (u2, listO ws c2)] ++ ((L, lawFr (W3 w a b c) ⟨sc, u, ⟨⟨n⟩⟩, tN, k0, k1, k2⟩ (f L) (.e k3 ⟨⟨v⟩⟩ tV k4 (if mk then 1 else 0) tm k5 ⟨⟨fmtF (quoteF n) v mk⟩⟩ tX s.toks false)) :: [(rt, tuI tu 1), (tu, tupR)])) := HJ4.perm ((List.Perm.cons _ (List.Perm.swap _ _ _)).trans (List.Perm.swap _ _ _))
   refine lr3_0d (Hp.part HP4) fun B2 s5 p5 h5 b5 => ?_
   refine ne_same rfl (h5.own (u1, listO us c1) (by simp)) (h5.own (u2, listO ws c2) (by simp)) iv iw ?_
   have HP5 := Hp.join HP4 h5 b5 rfl
   refine lr4_0d h5.nil fun s6 p6 h6 b6 => ?_
   refine Q s6 p6 (f L) _ (Hp.keep (Hp.back HP5) h6 b6) ?_
   have b12 : Beh [L, rt, tu] s s2 := Beh.trans b1 b2 (by simp)
   have D2 := D1.trans d2
   have D3 : Dead s2 s3 := dead_of b3 fun z hz => hp_live h3 hz
   refine Beh.drop (as := [L, rt, tu, u1, u2]) (Beh.trans (Beh.trans (Beh.trans (Beh.trans (Beh.widen b12 (by simp)) b3 (by simp)) b4 (by simp)) b5 (by simp)) b6 (by simp)) fun z hz => ?_
   simp only [List.mem_cons, List.not_mem_nil, or_false] at hz
   rcases hz with h | h | h | h | h
   · exact .inl (by simp [h])
   · exact .inl (by simp [h])
   · exact .inl (by simp [h])
   · exact .inr (h ▸ D1 _ d1)
   · exact .inr (h ▸ (D2.trans D3) _ d4)
 | none =>
   rw [hd] at hP
   obtain ⟨ts, T, tl⟩ := hP
   refine lr_spec (Fr := [(L, lawFr (W3 w a b c) ⟨sc, u, ⟨⟨n⟩⟩, tN, k0, k1, k2⟩ sl (.e k3 ⟨⟨v⟩⟩ tV k4 (if mk then 1 else 0) tm k5 ⟨⟨fmtF (quoteF n) v mk⟩⟩ tX s.toks false))]) (Hp.part (A := [(L, lawFr (W3 w a b c) ⟨sc, u, ⟨⟨n⟩⟩, tN, k0, k1, k2⟩ sl (.e k3 ⟨⟨v⟩⟩ tV k4 (if mk then 1 else 0) tm k5 ⟨⟨fmtF (quoteF n) v mk⟩⟩ tX s.toks false))]) h1) lw_nf lw_fo hlen tl T ?_
   intro s2 f tk h2 b2 d2
   have HJ2 := Hp.join2 (A := [(L, lawFr (W3 w a b c) ⟨sc, u, ⟨⟨n⟩⟩, tN, k0, k1, k2⟩ sl (.e k3 ⟨⟨v⟩⟩ tV k4 (if mk then 1 else 0) tm k5 ⟨⟨fmtF (quoteF n) v mk⟩⟩ tX s.toks false))]) (C := [(rt, tuI tu 1), (tu, tupR)]) h1 h2 b2 (fun z hz => .inl hz) (fun z hz => by
     rw [lw_re] at hz
     rw [List.mem_singleton.mp hz]; exact .inl (by simp))
   rw [lw_re] at HJ2
   refine lr2_0d (sl1 := f L) (.inr ⟨tk, rfl⟩) (Hp.part (A := [(L, lawFr (W3 w a b c) ⟨sc, u, ⟨⟨n⟩⟩, tN, k0, k1, k2⟩ (f L) (.e k3 ⟨⟨v⟩⟩ tV k4 (if mk then 1 else 0) tm k5 ⟨⟨fmtF (quoteF n) v mk⟩⟩ tX s.toks false))]) (C := [(rt, tuI tu 1), (tu, tupR)]) HJ2) fun B1 s3 p3 h3 b3 => ?_
   have HJ3 := Hp.join (A := [(L, lawFr (W3 w a b c) ⟨sc, u, ⟨⟨n⟩⟩, tN, k0, k1, k2⟩ (f L) (.e k3 ⟨⟨v⟩⟩ tV k4 (if mk then 1 else 0) tm k5 ⟨⟨fmtF (quoteF n) v mk⟩⟩ tX s.toks false))]) (C := [(rt, tuI tu 1), (tu, tupR)]) HJ2 h3 b3 rfl
   refine du_full (mk := mk) HJ3.nil (by omega) (by omega) ?_
   rw [hd]
   intro s4 tk2 h4 b4
   refine lr5_0d h4 fun s6 p6 h6 b6 => ?_
   refine Q s6 p6 (f L) _ (Hp.keep (Hp.keep HJ3 h4 b4) h6 b6) ?_
   exact Beh.trans (Beh.trans (Beh.trans (Beh.trans b1 b2 (by simp)) b3 (by simp)) b4 (by simp)) b6 (by simp)
theorem rb_0e (PL : Plain) (hn : n.length ≤ 12) (hv : v.length ≤ 12) (H : HpW (W3 w a b c) s.heap [(L, lawFr (W3 w a b c) ⟨sc, u, ⟨⟨n⟩⟩, tN, k0, k1, k2⟩ sl (.e k3 ⟨⟨v⟩⟩ tV k4 (if mk then 1 else 0) tm k5 ⟨⟨fmtF (quoteF n) v mk⟩⟩ tX k6 r)), (rt, tuI tu 0), (tu, tupR)])
   (Q : (∀ s' p' sl' k6', HpW (W3 w a b c) s'.heap [(L, lawFr (W3 w a b c) ⟨sc, u, ⟨⟨n⟩⟩, tN, k0, k1, k2⟩ sl' (.e k3 ⟨⟨v⟩⟩ tV k4 (if mk then 1 else 0) tm k5 ⟨⟨fmtF (quoteF n) v mk⟩⟩ tX k6' false)), (rt, tuI tu 1), (tu, tupR)] → Beh [L, rt, tu] s s' → wpCode (model prg (W3 w a b c)) (gR rt mt it L q) R p' s')) : wpCode (model prg (W3 w a b c)) (gR rt mt it L q) R p s := by
 refine lr1_0e H fun B s1 p1 h1 b1 => ?_
 have D1 : Dead s s1 := dead_of b1 fun z hz => hp_live h1 hz
 have hlen : (⟨⟨fmtF (quoteF n) v mk⟩⟩ : Str).length ≤ 1000 := fmt_len (quote_len hn) hv
 have hP := PL n v mk false hn hv
 cases hd : dueF (bareM false .out (some (n ++ [61])) v) n v mk with
 | some ts =>
   rw [hd] at hP
   obtain ⟨T, tl⟩ := hP
   refine lr_spec (Fr := [(L, lawFr (W3 w a b c) ⟨sc, u, ⟨⟨n⟩⟩, tN, k0, k1, k2⟩ sl (.e k3 ⟨⟨v⟩⟩ tV k4 (if mk then 1 else 0) tm k5 ⟨⟨fmtF (quoteF n) v mk⟩⟩ tX k6 false))]) (Hp.part (A := [(L, lawFr (W3 w a b c) ⟨sc, u, ⟨⟨n⟩⟩, tN, k0, k1, k2⟩ sl (.e k3 ⟨⟨v⟩⟩ tV k4 (if mk then 1 else 0) tm k5 ⟨⟨fmtF (quoteF n) v mk⟩⟩ tX k6 false))]) h1) lw_nf lw_fo hlen tl T ?_
   intro s2 f u1 us c1 iv d1 h2 b2 d2
   have HJ2 := Hp.join2 (A := [(L, lawFr (W3 w a b c) ⟨sc, u, ⟨⟨n⟩⟩, tN, k0, k1, k2⟩ sl (.e k3 ⟨⟨v⟩⟩ tV k4 (if mk then 1 else 0) tm k5 ⟨⟨fmtF (quoteF n) v mk⟩⟩ tX k6 false))]) (C := [(rt, tuI tu 1), (tu, tupR)]) h1 h2 b2 (fun z hz => .inl hz) (fun z hz => by
     rw [lw_re] at hz
     rcases List.mem_append.mp hz with hz | hz
     · rw [List.mem_singleton.mp hz]; exact .inl (by simp)
     · rw [List.mem_singleton.mp hz]; exact .inr d1)
   rw [lw_re] at HJ2
   refine lr2_0e (sl1 := f L) (.inl ⟨u1, rfl⟩) (Hp.part (A := [(L, lawFr (W3 w a b c) ⟨sc, u, ⟨⟨n⟩⟩, tN, k0, k1, k2⟩ (f L) (.e k3 ⟨⟨v⟩⟩ tV k4 (if mk then 1 else 0) tm k5 ⟨⟨fmtF (quoteF n) v mk⟩⟩ tX k6 false))]) (C := (u1, listO us c1) :: [(rt, tuI tu 1), (tu, tupR)]) HJ2) fun B1 s3 p3 h3 b3 => ?_
   have HJ3 := Hp.join (A := [(L, lawFr (W3 w a b c) ⟨sc, u, ⟨⟨n⟩⟩, tN, k0, k1, k2⟩ (f L) (.e k3 ⟨⟨v⟩⟩ tV k4 (if mk then 1 else 0) tm k5 ⟨⟨fmtF (quoteF n) v mk⟩⟩ tX k6 false))]) (C := (u1, listO us c1) :: [(rt, tuI tu 1), (tu, tupR)]) HJ2 h3 b3 rfl
   refine du_full (mk := mk) HJ3.nil (by omega) (by omega) ?_
   rw [hd]
   intro s4 u2 ws c2 iw h4 b4 d4
   have HJ4 := Hp.new HJ3 h4 b4 fun z hz => by rw [List.mem_singleton.mp hz]; exact d4
   have HP4 : HpW (W3 w a b c) s4.heap ([(u1, listO us c1), (u2, listO ws c2)] ++ ((L, lawFr (W3 w a b c) ⟨sc, u, ⟨⟨n⟩⟩, tN, k0, k1, k2⟩ (f L) (.e k3 ⟨⟨v⟩⟩ tV k4 (if mk then 1 else 0) tm k5 ⟨⟨fmtF (quoteF n) v mk⟩⟩ tX k6 false)) :: [(rt, tuI tu 1), (tu, tupR)])) := HJ4.perm ((List.Perm.cons _ (List.Perm.swap _ _ _)).trans (List.Perm.swap _ _ _))
   refine lr3_0e (Hp.part HP4) fun B2 s5 p5 h5 b5 => ?_
   refine ne_same rfl (h5.own (u1, listO us c1) (by simp)) (h5.own (u2, listO ws c2) (by simp)) iv iw ?_
   have HP5 := Hp.join HP4 h5 b5 rfl
   refine lr4_0e h5.nil fun s6 p6 h6 b6 => ?_
   refine Q s6 p6 (f L) _ (Hp.keep (Hp.back HP5) h6 b6) ?_
   have b12 : Beh [L, rt, tu] s s2 := Beh.trans b1 b2 (by simp)
   have D2 := D1.trans d2
   have D3 : Dead s2 s3 := dead_of b3 fun z hz => hp_live h3 hz
   refine Beh.drop (as := [L, rt, tu, u1, u2]) (Beh.trans (Beh.trans (Beh.trans (Beh.trans (Beh.widen b12 (by simp)) b3 (by simp)) b4 (by simp)) b5 (by simp)) b6 (by simp)) fun z hz => ?_
   simp only [List.mem_cons, List.not_mem_nil, or_false] at hz
   rcases hz with h | h | h | h | h
   · exact .inl (by simp [h])
   · exact .inl (by simp [h])
   · exact .inl (by simp [h])
   · exact .inr (h ▸ D1 _ d1)
   · exact .inr (h ▸ (D2.trans D3) _ d4)
 | none =>
   rw [hd] at hP
   obtain ⟨ts, T, tl⟩ := hP
   refine lr_spec (Fr := [(L, lawFr (W3 w a b c) ⟨sc, u, ⟨⟨n⟩⟩, tN, k0, k1, k2⟩ sl (.e k3 ⟨⟨v⟩⟩ tV k4 (if mk then 1 else 0) tm k5 ⟨⟨fmtF (quoteF n) v mk⟩⟩ tX k6 false))]) (Hp.part (A := [(L, lawFr (W3 w a b c) ⟨sc, u, ⟨⟨n⟩⟩, tN, k0, k1, k2⟩ sl (.e k3 ⟨⟨v⟩⟩ tV k4 (if mk then 1 else 0) tm k5 ⟨⟨fmtF (quoteF n) v mk⟩⟩ tX k6 false))]) h1) lw_nf lw_fo hlen tl T ?_
   intro s2 f tk h2 b2 d2
   have HJ2 := Hp.join2 (A := [(L, lawFr (W3 w a b c) ⟨sc, u, ⟨⟨n⟩⟩, tN, k0, k1, k2⟩ sl (.e k3 ⟨⟨v⟩⟩ tV k4 (if mk then 1 else 0) tm k5 ⟨⟨fmtF (quoteF n) v mk⟩⟩ tX k6 false))]) (C := [(rt, tuI tu 1), (tu, tupR)]) h1 h2 b2 (fun z hz => .inl hz) (fun z hz => by
     rw [lw_re] at hz
     rw [List.mem_singleton.mp hz]; exact .inl (by simp))
   rw [lw_re] at HJ2
   refine lr2_0e (sl1 := f L) (.inr ⟨tk, rfl⟩) (Hp.part (A := [(L, lawFr (W3 w a b c) ⟨sc, u, ⟨⟨n⟩⟩, tN, k0, k1, k2⟩ (f L) (.e k3 ⟨⟨v⟩⟩ tV k4 (if mk then 1 else 0) tm k5 ⟨⟨fmtF (quoteF n) v mk⟩⟩ tX k6 false))]) (C := [(rt, tuI tu 1), (tu, tupR)]) HJ2) fun B1 s3 p3 h3 b3 => ?_
   have HJ3 := Hp.join (A := [(L, lawFr (W3 w a b c) ⟨sc, u, ⟨⟨n⟩⟩, tN, k0, k1, k2⟩ (f L) (.e k3 ⟨⟨v⟩⟩ tV k4 (if mk then 1 else 0) tm k5 ⟨⟨fmtF (quoteF n) v mk⟩⟩ tX k6 false))]) (C := [(rt, tuI tu 1), (tu, tupR)]) HJ2 h3 b3 rfl
   refine du_full (mk := mk) HJ3.nil (by omega) (by omega) ?_
   rw [hd]
   intro s4 tk2 h4 b4
   refine lr5_0e h4 fun s6 p6 h6 b6 => ?_
   refine Q s6 p6 (f L) _ (Hp.keep (Hp.keep HJ3 h4 b4) h6 b6) ?_
   exact Beh.trans (Beh.trans (Beh.trans (Beh.trans b1 b2 (by simp)) b3 (by simp)) b4 (by simp)) b6 (by simp)
theorem rb_1e (PL : Plain) (hn : n.length ≤ 12) (hv : v.length ≤ 12) (H : HpW (W3 w a b c) s.heap [(L, lawFr (W3 w a b c) ⟨sc, u, ⟨⟨n⟩⟩, tN, k0, k1, k2⟩ sl (.e k3 ⟨⟨v⟩⟩ tV k4 (if mk then 1 else 0) tm k5 ⟨⟨fmtF (quoteF n) v mk⟩⟩ tX k6 r)), (rt, tuI tu 1), (tu, tupR)])
   (Q : (∀ s' p' sl' k6', HpW (W3 w a b c) s'.heap [(L, lawFr (W3 w a b c) ⟨sc, u, ⟨⟨n⟩⟩, tN, k0, k1, k2⟩ sl' (.e k3 ⟨⟨v⟩⟩ tV k4 (if mk then 1 else 0) tm k5 ⟨⟨fmtF (quoteF n) v mk⟩⟩ tX k6' true)), (rt, tuI tu 2), (tu, tupR)] → Beh [L, rt, tu] s s' → wpCode (model prg (W3 w a b c)) (gR rt mt it L q) R p' s')) : wpCode (model prg (W3 w a b c)) (gR rt mt it L q) R p s := by
 refine lr1_1e H fun B s1 p1 h1 b1 => ?_
 have D1 : Dead s s1 := dead_of b1 fun z hz => hp_live h1 hz
 have hlen : (⟨⟨fmtF (quoteF n) v mk⟩⟩ : Str).length ≤ 1000 := fmt_len (quote_len hn) hv
 have hP := PL n v mk true hn hv
 cases hd : dueF (bareM true .out (some (n ++ [61])) v) n v mk with
 | some ts =>
   rw [hd] at hP
   obtain ⟨T, tl⟩ := hP
   refine lr_spec (Fr := [(L, lawFr (W3 w a b c) ⟨sc, u, ⟨⟨n⟩⟩, tN, k0, k1, k2⟩ sl (.e k3 ⟨⟨v⟩⟩ tV k4 (if mk then 1 else 0) tm k5 ⟨⟨fmtF (quoteF n) v mk⟩⟩ tX k6 true))]) (Hp.part (A := [(L, lawFr (W3 w a b c) ⟨sc, u, ⟨⟨n⟩⟩, tN, k0, k1, k2⟩ sl (.e k3 ⟨⟨v⟩⟩ tV k4 (if mk then 1 else 0) tm k5 ⟨⟨fmtF (quoteF n) v mk⟩⟩ tX k6 true))]) h1) lw_nf lw_fo hlen tl T ?_
   intro s2 f u1 us c1 iv d1 h2 b2 d2
   have HJ2 := Hp.join2 (A := [(L, lawFr (W3 w a b c) ⟨sc, u, ⟨⟨n⟩⟩, tN, k0, k1, k2⟩ sl (.e k3 ⟨⟨v⟩⟩ tV k4 (if mk then 1 else 0) tm k5 ⟨⟨fmtF (quoteF n) v mk⟩⟩ tX k6 true))]) (C := [(rt, tuI tu 2), (tu, tupR)]) h1 h2 b2 (fun z hz => .inl hz) (fun z hz => by
     rw [lw_re] at hz
     rcases List.mem_append.mp hz with hz | hz
     · rw [List.mem_singleton.mp hz]; exact .inl (by simp)
     · rw [List.mem_singleton.mp hz]; exact .inr d1)
   rw [lw_re] at HJ2
   refine lr2_1e (sl1 := f L) (.inl ⟨u1, rfl⟩) (Hp.part (A := [(L, lawFr (W3 w a b c) ⟨sc, u, ⟨⟨n⟩⟩, tN, k0, k1, k2⟩ (f L) (.e k3 ⟨⟨v⟩⟩ tV k4 (if mk then 1 else 0) tm k5 ⟨⟨fmtF (quoteF n) v mk⟩⟩ tX k6 true))]) (C := (u1, listO us c1) :: [(rt, tuI tu 2), (tu, tupR)]) HJ2) fun B1 s3 p3 h3 b3 => ?_
   have HJ3 := Hp.join (A := [(L, lawFr (W3 w a b c) ⟨sc, u, ⟨⟨n⟩⟩, tN, k0, k1, k2⟩ (f L) (.e k3 ⟨⟨v⟩⟩ tV k4 (if mk then 1 else 0) tm k5 ⟨⟨fmtF (quoteF n) v mk⟩⟩ tX k6 true))]) (C := (u1, listO us c1) :: [(rt, tuI tu 2), (tu, tupR)]) HJ2 h3 b3 rfl
   refine du_full (mk := mk) HJ3.nil (by omega) (by omega) ?_
   rw [hd]
   intro s4 u2 ws c2 iw h4 b4 d4
   have HJ4 := Hp.new HJ3 h4 b4 fun z hz => by rw [List.mem_singleton.mp hz]; exact d4
   have HP4 : HpW (W3 w a b c) s4.heap ([(u1, listO us c1), (u2, listO ws c2)] ++ ((L, lawFr (W3 w a b c) ⟨sc, u, ⟨⟨n⟩⟩, tN, k0, k1, k2⟩ (f L) (.e k3 ⟨⟨v⟩⟩ tV k4 (if mk then 1 else 0) tm k5 ⟨⟨fmtF (quoteF n) v mk⟩⟩ tX k6 true)) :: [(rt, tuI tu 2), (tu, tupR)])) := HJ4.perm ((List.Perm.cons _ (List.Perm.swap _ _ _)).trans (List.Perm.swap _ _ _))
   refine lr3_1e (Hp.part HP4) fun B2 s5 p5 h5 b5 => ?_
   refine ne_same rfl (h5.own (u1, listO us c1) (by simp)) (h5.own (u2, listO ws c2) (by simp)) iv iw ?_
   have HP5 := Hp.join HP4 h5 b5 rfl
   refine lr4_1e h5.nil fun s6 p6 h6 b6 => ?_
   refine Q s6 p6 (f L) _ (Hp.keep (Hp.back HP5) h6 b6) ?_
   have b12 : Beh [L, rt, tu] s s2 := Beh.trans b1 b2 (by simp)
   have D2 := D1.trans d2
   have D3 : Dead s2 s3 := dead_of b3 fun z hz => hp_live h3 hz
   refine Beh.drop (as := [L, rt, tu, u1, u2]) (Beh.trans (Beh.trans (Beh.trans (Beh.trans (Beh.widen b12 (by simp)) b3 (by simp)) b4 (by simp)) b5 (by simp)) b6 (by simp)) fun z hz => ?_
   simp only [List.mem_cons, List.not_mem_nil, or_false] at hz
   rcases hz with h | h | h | h | h
   · exact .inl (by simp [h])
   · exact .inl (by simp [h])
   · exact .inl (by simp [h])
   · exact .inr (h ▸ D1 _ d1)
   · exact .inr (h ▸ (D2.trans D3) _ d4)
 | none =>
   rw [hd] at hP
   obtain ⟨ts, T, tl⟩ := hP
   refine lr_spec (Fr := [(L, lawFr (W3 w a b c) ⟨sc, u, ⟨⟨n⟩⟩, tN, k0, k1, k2⟩ sl (.e k3 ⟨⟨v⟩⟩ tV k4 (if mk then 1 else 0) tm k5 ⟨⟨fmtF (quoteF n) v mk⟩⟩ tX k6 true))]) (Hp.part (A := [(L, lawFr (W3 w a b c) ⟨sc, u, ⟨⟨n⟩⟩, tN, k0, k1, k2⟩ sl (.e k3 ⟨⟨v⟩⟩ tV k4 (if mk then 1 else 0) tm k5 ⟨⟨fmtF (quoteF n) v mk⟩⟩ tX k6 true))]) h1) lw_nf lw_fo hlen tl T ?_
   intro s2 f tk h2 b2 d2
   have HJ2 := Hp.join2 (A := [(L, lawFr (W3 w a b c) ⟨sc, u, ⟨⟨n⟩⟩, tN, k0, k1, k2⟩ sl (.e k3 ⟨⟨v⟩⟩ tV k4 (if mk then 1 else 0) tm k5 ⟨⟨fmtF (quoteF n) v mk⟩⟩ tX k6 true))]) (C := [(rt, tuI tu 2), (tu, tupR)]) h1 h2 b2 (fun z hz => .inl hz) (fun z hz => by
     rw [lw_re] at hz
     rw [List.mem_singleton.mp hz]; exact .inl (by simp))
   rw [lw_re] at HJ2
   refine lr2_1e (sl1 := f L) (.inr ⟨tk, rfl⟩) (Hp.part (A := [(L, lawFr (W3 w a b c) ⟨sc, u, ⟨⟨n⟩⟩, tN, k0, k1, k2⟩ (f L) (.e k3 ⟨⟨v⟩⟩ tV k4 (if mk then 1 else 0) tm k5 ⟨⟨fmtF (quoteF n) v mk⟩⟩ tX k6 true))]) (C := [(rt, tuI tu 2), (tu, tupR)]) HJ2) fun B1 s3 p3 h3 b3 => ?_
   have HJ3 := Hp.join (A := [(L, lawFr (W3 w a b c) ⟨sc, u, ⟨⟨n⟩⟩, tN, k0, k1, k2⟩ (f L) (.e k3 ⟨⟨v⟩⟩ tV k4 (if mk then 1 else 0) tm k5 ⟨⟨fmtF (quoteF n) v mk⟩⟩ tX k6 true))]) (C := [(rt, tuI tu 2), (tu, tupR)]) HJ2 h3 b3 rfl
   refine du_full (mk := mk) HJ3.nil (by omega) (by omega) ?_
   rw [hd]
   intro s4 tk2 h4 b4
   refine lr5_1e h4 fun s6 p6 h6 b6 => ?_
   refine Q s6 p6 (f L) _ (Hp.keep (Hp.keep HJ3 h4 b4) h6 b6) ?_
   exact Beh.trans (Beh.trans (Beh.trans (Beh.trans b1 b2 (by simp)) b3 (by simp)) b4 (by simp)) b6 (by simp)
theorem rl_d (PL : Plain) (hn : n.length ≤ 12) (hv : v.length ≤ 12) (H : HpW (W3 w a b c) s.heap [(L, lawFr (W3 w a b c) ⟨sc, u, ⟨⟨n⟩⟩, tN, k0, k1, k2⟩ sl (.d k3 ⟨⟨v⟩⟩ tV k4 (if mk then 1 else 0) tm k5 ⟨⟨fmtF (quoteF n) v mk⟩⟩ tX)), (rt, tuI tu 0), (tu, tupR)])
   (hR : ∀ s' sl' k6', HpW (W3 w a b c) s'.heap [(L, lawFr (W3 w a b c) ⟨sc, u, ⟨⟨n⟩⟩, tN, k0, k1, k2⟩ sl' (.e k3 ⟨⟨v⟩⟩ tV k4 (if mk then 1 else 0) tm k5 ⟨⟨fmtF (quoteF n) v mk⟩⟩ tX k6' true))] → Beh [L, rt, tu] s s' → R (.ok .next) s') : wpCode (model prg (W3 w a b c)) (gR rt mt it L q) R p s := by
 refine rb_0d PL hn hv H fun s1 p1 sl1 k61 h1 b1 => ?_
 refine rb_1e PL hn hv h1 fun s2 p2 sl2 k62 h2 b2 => ?_
 refine lrE h2 fun s3 h3 b3 => ?_
 exact hR s3 sl2 k62 h3 (Beh.trans (Beh.trans b1 b2 (by simp)) b3 (by simp))
theorem rl_e (PL : Plain) (hn : n.length ≤ 12) (hv : v.length ≤ 12) (H : HpW (W3 w a b c) s.heap [(L, lawFr (W3 w a b c) ⟨sc, u, ⟨⟨n⟩⟩, tN, k0, k1, k2⟩ sl (.e k3 ⟨⟨v⟩⟩ tV k4 (if mk then 1 else 0) tm k5 ⟨⟨fmtF (quoteF n) v mk⟩⟩ tX k6 r)), (rt, tuI tu 0), (tu, tupR)])
   (hR : ∀ s' sl' k6', HpW (W3 w a b c) s'.heap [(L, lawFr (W3 w a b c) ⟨sc, u, ⟨⟨n⟩⟩, tN, k0, k1, k2⟩ sl' (.e k3 ⟨⟨v⟩⟩ tV k4 (if mk then 1 else 0) tm k5 ⟨⟨fmtF (quoteF n) v mk⟩⟩ tX k6' true))] → Beh [L, rt, tu] s s' → R (.ok .next) s') : wpCode (model prg (W3 w a b c)) (gR rt mt it L q) R p s := by
 refine rb_0e PL hn hv H fun s1 p1 sl1 k61 h1 b1 => ?_
 refine rb_1e PL hn hv h1 fun s2 p2 sl2 k62 h2 b2 => ?_
 refine lrE h2 fun s3 h3 b3 => ?_
 exact hR s3 sl2 k62 h3 (Beh.trans (Beh.trans b1 b2 (by simp)) b3 (by simp))
theorem mb_0b (PL : Plain) (hn : n.length ≤ 12) (hv : v.length ≤ 12) (H : HpW (W3 w a b c) s.heap [(L, lawFr (W3 w a b c) ⟨sc, u, ⟨⟨n⟩⟩, tN, k0, k1, k2⟩ sl (.b k3 ⟨⟨v⟩⟩ tV)), (mt, tuI tu 0), (tu, tupM t1 t2)])
   (Q : ∀ s' p' sl' k4' k5' X' tX' k6', HpW (W3 w a b c) s'.heap [(L, lawFr (W3 w a b c) ⟨sc, u, ⟨⟨n⟩⟩, tN, k0, k1, k2⟩ sl' (.e k3 ⟨⟨v⟩⟩ tV k4' 1 t1 k5' X' tX' k6' true)), (mt, tuI tu 1), (tu, tupM t1 t2)] → Beh [L, mt, tu] s s' → wpCode (model prg (W3 w a b c)) (gM mt it L q) R p' s') :
   wpCode (model prg (W3 w a b c)) (gM mt it L q) R p s := by
 refine lm1_0b H fun B s1 p1 h1 b1 => ?_
 have D1 : Dead s s1 := dead_of b1 fun z hz => hp_live h1 hz
 refine qu_spec h1.nil hn fun s2 tq h2 b2 => ?_
 have H2 := Hp.keep h1 h2 b2
 refine lm2_0b (Hp.part (A := [(L, lawFr (W3 w a b c) ⟨sc, u, ⟨⟨n⟩⟩, tN, k0, k1, k2⟩ sl (.c k3 ⟨⟨v⟩⟩ tV s.toks 1 t1))]) (C := [(mt, tuI tu 1), (tu, tupM t1 t2)]) H2) fun B1 s3 p3 h3 b3 => ?_
 have H3 := Hp.join (A := [(L, lawFr (W3 w a b c) ⟨sc, u, ⟨⟨n⟩⟩, tN, k0, k1, k2⟩ sl (.c k3 ⟨⟨v⟩⟩ tV s.toks 1 t1))]) (C := [(mt, tuI tu 1), (tu, tupM t1 t2)]) H2 h3 b3 rfl
 have hql := quote_len hn
 refine fp_spec (mk := true) H3.nil (by omega) hv fun s4 tx h4 b4 => ?_
 have H4 := Hp.keep H3 h4 b4
 refine lm3_0b (Hp.part (A := [(L, lawFr (W3 w a b c) ⟨sc, u, ⟨⟨n⟩⟩, tN, k0, k1, k2⟩ sl (.c k3 ⟨⟨v⟩⟩ tV s.toks 1 t1))]) (C := [(mt, tuI tu 1), (tu, tupM t1 t2)]) H4) fun B2 s5 p5 hB2 h5 b5 => ?_
 have dz : ∀ z, B2 + 1 ≤ z → s4.heap.get? z = none := fun z hz => Heap.get?_none_of_le (by omega)
 have H5 := Hp.join2 (A := [(L, lawFr (W3 w a b c) ⟨sc, u, ⟨⟨n⟩⟩, tN, k0, k1, k2⟩ sl (.c k3 ⟨⟨v⟩⟩ tV s.toks 1 t1))]) (C := [(mt, tuI tu 1), (tu, tupM t1 t2)]) H4 h5 b5 (fun z hz => .inl hz) (fun z hz => by
   simp only [List.mem_cons, List.not_mem_nil, or_false] at hz
   rcases hz with rfl | rfl | rfl
   · exact .inl (by simp)
   · exact .inr (dz _ (Nat.le_refl _))
   · exact .inr (dz _ (by omega)))
 refine rl_d (mk := true) PL hn hv (h5.perm (List.Perm.cons _ (List.Perm.swap _ _ _))) fun s6 sl6 k6' h6 b6 => ?_
 have H5' := H5.perm (List.Perm.cons _ (List.Perm.swap _ _ _))
 have H6 := Hp.join2 (A := [(L, lawFr (W3 w a b c) ⟨sc, u, ⟨⟨n⟩⟩, tN, k0, k1, k2⟩ sl (.d k3 ⟨⟨v⟩⟩ tV s.toks 1 t1 s4.toks ⟨⟨fmtF (quoteF n) v true⟩⟩ tx)), (B2 + 2, tuI (B2 + 1) 0), (B2 + 1, tupR)]) (C := [(mt, tuI tu 1), (tu, tupM t1 t2)]) H5' h6 b6 (fun z hz => .inl (by simpa using hz)) (fun z hz => by
   rw [List.mem_singleton.mp hz]; exact .inl (by simp))
 refine lm4_0b h6.nil fun s7 p7 h7 b7 => ?_
 refine Q s7 p7 sl6 _ _ _ _ k6' (Hp.keep H6 h7 b7) ?_
 have b15 : Beh [L, mt, tu] s s5 := Beh.trans (Beh.trans (Beh.trans (Beh.trans b1 b2 (by simp)) b3 (by simp)) b4 (by simp)) b5 (by simp)
 have D3 : Dead s2 s3 := dead_of b3 fun z hz => hp_live h3 hz
 have DD : ∀ z, B2 + 1 ≤ z → s.heap.get? z = none := fun z hz => D1 _ (dead_nil b2 _ (D3 _ (dead_nil b4 _ (dz z hz))))
 refine Beh.drop (as := [L, mt, tu, B2 + 2, B2 + 1]) (Beh.trans (Beh.trans (Beh.widen b15 (by simp)) b6 (by simp)) b7 (by simp)) fun z hz => ?_
 simp only [List.mem_cons, List.not_mem_nil, or_false] at hz
 rcases hz with h | h | h | h | h
 · exact .inl (by simp [h])
 · exact .inl (by simp [h])
 · exact .inl (by simp [h])
 · exact .inr (h ▸ DD _ (by omega))
 · exact .inr (h ▸ DD _ (by omega))
theorem mb_0e (PL : Plain) (hn : n.length ≤ 12) (hv : v.length ≤ 12) (H : HpW (W3 w a b c) s.heap [(L, lawFr (W3 w a b c) ⟨sc, u, ⟨⟨n⟩⟩, tN, k0, k1, k2⟩ sl (.e k3 ⟨⟨v⟩⟩ tV k4 m tm k5 X tX k6 r)), (mt, tuI tu 0), (tu, tupM t1 t2)])
   (Q : ∀ s' p' sl' k4' k5' X' tX' k6', HpW (W3 w a b c) s'.heap [(L, lawFr (W3 w a b c) ⟨sc, u, ⟨⟨n⟩⟩, tN, k0, k1, k2⟩ sl' (.e k3 ⟨⟨v⟩⟩ tV k4' 1 t1 k5' X' tX' k6' true)), (mt, tuI tu 1), (tu, tupM t1 t2)] → Beh [L, mt, tu] s s' → wpCode (model prg (W3 w a b c)) (gM mt it L q) R p' s') :
   wpCode (model prg (W3 w a b c)) (gM mt it L q) R p s := by
 refine lm1_0e H fun B s1 p1 h1 b1 => ?_
 have D1 : Dead s s1 := dead_of b1 fun z hz => hp_live h1 hz
 refine qu_spec h1.nil hn fun s2 tq h2 b2 => ?_
 have H2 := Hp.keep h1 h2 b2
 refine lm2_0e (Hp.part (A := [(L, lawFr (W3 w a b c) ⟨sc, u, ⟨⟨n⟩⟩, tN, k0, k1, k2⟩ sl (.e k3 ⟨⟨v⟩⟩ tV k4 1 t1 k5 X tX k6 r))]) (C := [(mt, tuI tu 1), (tu, tupM t1 t2)]) H2) fun B1 s3 p3 h3 b3 => ?_
 have H3 := Hp.join (A := [(L, lawFr (W3 w a b c) ⟨sc, u, ⟨⟨n⟩⟩, tN, k0, k1, k2⟩ sl (.e k3 ⟨⟨v⟩⟩ tV k4 1 t1 k5 X tX k6 r))]) (C := [(mt, tuI tu 1), (tu, tupM t1 t2)]) H2 h3 b3 rfl
 have hql := quote_len hn
 refine fp_spec (mk := true) H3.nil (by omega) hv fun s4 tx h4 b4 => ?_
 have H4 := Hp.keep H3 h4 b4
 refine lm3_0e (Hp.part (A := [(L, lawFr (W3 w a b c) ⟨sc, u, ⟨⟨n⟩⟩, tN, k0, k1, k2⟩ sl (.e k3 ⟨⟨v⟩⟩ tV k4 1 t1 k5 X tX k6 r))]) (C := [(mt, tuI tu 1), (tu, tupM t1 t2)]) H4) fun B2 s5 p5 hB2 h5 b5 => ?_
 have dz : ∀ z, B2 + 1 ≤ z → s4.heap.get? z = none := fun z hz => Heap.get?_none_of_le (by omega)
 have H5 := Hp.join2 (A := [(L, lawFr (W3 w a b c) ⟨sc, u, ⟨⟨n⟩⟩, tN, k0, k1, k2⟩ sl (.e k3 ⟨⟨v⟩⟩ tV k4 1 t1 k5 X tX k6 r))]) (C := [(mt, tuI tu 1), (tu, tupM t1 t2)]) H4 h5 b5 (fun z hz => .inl hz) (fun z hz => by
   simp only [List.mem_cons, List.not_mem_nil, or_false] at hz
   rcases hz with rfl | rfl | rfl
   · exact .inl (by simp)
   · exact .inr (dz _ (Nat.le_refl _))
   · exact .inr (dz _ (by omega)))
 refine rl_e (mk := true) PL hn hv (h5.perm (List.Perm.cons _ (List.Perm.swap _ _ _))) fun s6 sl6 k6' h6 b6 => ?_
 have H5' := H5.perm (List.Perm.cons _ (List.Perm.swap _ _ _))
 have H6 := Hp.join2 (A := [(L, lawFr (W3 w a b c) ⟨sc, u, ⟨⟨n⟩⟩, tN, k0, k1, k2⟩ sl (.e k3 ⟨⟨v⟩⟩ tV k4 1 t1 k5 ⟨⟨fmtF (quoteF n) v true⟩⟩ tx k6 r)), (B2 + 2, tuI (B2 + 1) 0), (B2 + 1, tupR)]) (C := [(mt, tuI tu 1), (tu, tupM t1 t2)]) H5' h6 b6 (fun z hz => .inl (by simpa using hz)) (fun z hz => by
   rw [List.mem_singleton.mp hz]; exact .inl (by simp))
 refine lm4_0e h6.nil fun s7 p7 h7 b7 => ?_
 refine Q s7 p7 sl6 _ _ _ _ k6' (Hp.keep H6 h7 b7) ?_
 have b15 : Beh [L, mt, tu] s s5 := Beh.trans (Beh.trans (Beh.trans (Beh.trans b1 b2 (by simp)) b3 (by simp)) b4 (by simp)) b5 (by simp)
 have D3 : Dead s2 s3 := dead_of b3 fun z hz => hp_live h3 hz
 have DD : ∀ z, B2 + 1 ≤ z → s.heap.get? z = none := fun z hz => D1 _ (dead_nil b2 _ (D3 _ (dead_nil b4 _ (dz z hz))))
 refine Beh.drop (as := [L, mt, tu, B2 + 2, B2 + 1]) (Beh.trans (Beh.trans (Beh.widen b15 (by simp)) b6 (by simp)) b7 (by simp)) fun z hz => ?_
 simp only [List.mem_cons, List.not_mem_nil, or_false] at hz
 rcases hz with h | h | h | h | h
 · exact .inl (by simp [h])
 · exact .inl (by simp [h])
 · exact .inl (by simp [h])
 · exact .inr (h ▸ DD _ (by omega))
 · exact .inr (h ▸ DD _ (by omega))
theorem mb_1e (PL : Plain) (hn : n.length ≤ 12) (hv : v.length ≤ 12) (H : HpW (W3 w a b c) s.heap [(L, lawFr (W3 w a b c) ⟨sc, u, ⟨⟨n⟩⟩, tN, k0, k1, k2⟩ sl (.e k3 ⟨⟨v⟩⟩ tV k4 m tm k5 X tX k6 r)), (mt, tuI tu 1), (tu, tupM t1 t2)])
   (Q : ∀ s' p' sl' k4' k5' X' tX' k6', HpW (W3 w a b c) s'.heap [(L, lawFr (W3 w a b c) ⟨sc, u, ⟨⟨n⟩⟩, tN, k0, k1, k2⟩ sl' (.e k3 ⟨⟨v⟩⟩ tV k4' 0 t2 k5' X' tX' k6' true)), (mt, tuI tu 2), (tu, tupM t1 t2)] → Beh [L, mt, tu] s s' → wpCode (model prg (W3 w a b c)) (gM mt it L q) R p' s') :
   wpCode (model prg (W3 w a b c)) (gM mt it L q) R p s := by
 refine lm1_1e H fun B s1 p1 h1 b1 => ?_
 have D1 : Dead s s1 := dead_of b1 fun z hz => hp_live h1 hz
 refine qu_spec h1.nil hn fun s2 tq h2 b2 => ?_
 have H2 := Hp.keep h1 h2 b2
 refine lm2_1e (Hp.part (A := [(L, lawFr (W3 w a b c) ⟨sc, u, ⟨⟨n⟩⟩, tN, k0, k1, k2⟩ sl (.e k3 ⟨⟨v⟩⟩ tV k4 0 t2 k5 X tX k6 r))]) (C := [(mt, tuI tu 2), (tu, tupM t1 t2)]) H2) fun B1 s3 p3 h3 b3 => ?_
 have H3 := Hp.join (A := [(L, lawFr (W3 w a b c) ⟨sc, u, ⟨⟨n⟩⟩, tN, k0, k1, k2⟩ sl (.e k3 ⟨⟨v⟩⟩ tV k4 0 t2 k5 X tX k6 r))]) (C := [(mt, tuI tu 2), (tu, tupM t1 t2)]) H2 h3 b3 rfl
 have hql := quote_len hn
 refine fp_spec (mk := false) H3.nil (by omega) hv fun s4 tx h4 b4 => ?_
 have H4 := Hp.keep H3 h4 b4
 refine lm3_1e (Hp.part (A := [(L, lawFr (W3 w a b c) ⟨sc, u, ⟨⟨n⟩⟩, tN, k0, k1, k2⟩ sl (.e k3 ⟨⟨v⟩⟩ tV k4 0 t2 k5 X tX k6 r))]) (C := [(mt, tuI tu 2), (tu, tupM t1 t2)]) H4) fun B2 s5 p5 hB2 h5 b5 => ?_
 have dz : ∀ z, B2 + 1 ≤ z → s4.heap.get? z = none := fun z hz => Heap.get?_none_of_le (by omega)
 have H5 := Hp.join2 (A := [(L, lawFr (W3 w a b c) ⟨sc, u, ⟨⟨n⟩⟩, tN, k0, k1, k2⟩ sl (.e k3 ⟨⟨v⟩⟩ tV k4 0 t2 k5 X tX k6 r))]) (C := [(mt, tuI tu 2), (tu, tupM t1 t2)]) H4 h5 b5 (fun z hz => .inl hz) (fun z hz => by
   simp only [List.mem_cons, List.not_mem_nil, or_false] at hz
   rcases hz with rfl | rfl | rfl
   · exact .inl (by simp)
   · exact .inr (dz _ (Nat.le_refl _))
   · exact .inr (dz _ (by omega)))
 refine rl_e (mk := false) PL hn hv (h5.perm (List.Perm.cons _ (List.Perm.swap _ _ _))) fun s6 sl6 k6' h6 b6 => ?_
 have H5' := H5.perm (List.Perm.cons _ (List.Perm.swap _ _ _))
 have H6 := Hp.join2 (A := [(L, lawFr (W3 w a b c) ⟨sc, u, ⟨⟨n⟩⟩, tN, k0, k1, k2⟩ sl (.e k3 ⟨⟨v⟩⟩ tV k4 0 t2 k5 ⟨⟨fmtF (quoteF n) v false⟩⟩ tx k6 r)), (B2 + 2, tuI (B2 + 1) 0), (B2 + 1, tupR)]) (C := [(mt, tuI tu 2), (tu, tupM t1 t2)]) H5' h6 b6 (fun z hz => .inl (by simpa using hz)) (fun z hz => by
   rw [List.mem_singleton.mp hz]; exact .inl (by simp))
 refine lm4_1e h6.nil fun s7 p7 h7 b7 => ?_
 refine Q s7 p7 sl6 _ _ _ _ k6' (Hp.keep H6 h7 b7) ?_
 have b15 : Beh [L, mt, tu] s s5 := Beh.trans (Beh.trans (Beh.trans (Beh.trans b1 b2 (by simp)) b3 (by simp)) b4 (by simp)) b5 (by simp)
 have D3 : Dead s2 s3 := dead_of b3 fun z hz => hp_live h3 hz
 have DD : ∀ z, B2 + 1 ≤ z → s.heap.get? z = none := fun z hz => D1 _ (dead_nil b2 _ (D3 _ (dead_nil b4 _ (dz z hz))))
 refine Beh.drop (as := [L, mt, tu, B2 + 2, B2 + 1]) (Beh.trans (Beh.trans (Beh.widen b15 (by simp)) b6 (by simp)) b7 (by simp)) fun z hz => ?_
 simp only [List.mem_cons, List.not_mem_nil, or_false] at hz
 rcases hz with h | h | h | h | h
 · exact .inl (by simp [h])
 · exact .inl (by simp [h])
 · exact .inl (by simp [h])
 · exact .inr (h ▸ DD _ (by omega))
 · exact .inr (h ▸ DD _ (by omega))
theorem ml_b (PL : Plain) (hn : n.length ≤ 12) (hv : v.length ≤ 12) (H : HpW (W3 w a b c) s.heap [(L, lawFr (W3 w a b c) ⟨sc, u, ⟨⟨n⟩⟩, tN, k0, k1, k2⟩ sl (.b k3 ⟨⟨v⟩⟩ tV)), (mt, tuI tu 0), (tu, tupM t1 t2)])
   (hR : ∀ s' sl' k3' V' tV' k4' m' tm' k5' X' tX' k6' r', HpW (W3 w a b c) s'.heap [(L, lawFr (W3 w a b c) ⟨sc, u, ⟨⟨n⟩⟩, tN, k0, k1, k2⟩ sl' (.e k3' V' tV' k4' m' tm' k5' X' tX' k6' r'))] → Beh [L, mt, tu] s s' → R (.ok .next) s') : wpCode (model prg (W3 w a b c)) (gM mt it L q) R p s := by
 refine mb_0b PL hn hv H fun s1 p1 sl1 k41 k51 X1 tX1 k61 h1 b1 => ?_
 refine mb_1e PL hn hv h1 fun s2 p2 sl2 k42 k52 X2 tX2 k62 h2 b2 => ?_
 refine lmE h2 fun s3 h3 b3 => ?_
 exact hR s3 sl2 _ _ _ _ _ _ _ _ _ _ _ h3 (Beh.trans (Beh.trans b1 b2 (by simp)) b3 (by simp))
theorem ml_e (PL : Plain) (hn : n.length ≤ 12) (hv : v.length ≤ 12) (H : HpW (W3 w a b c) s.heap [(L, lawFr (W3 w a b c) ⟨sc, u, ⟨⟨n⟩⟩, tN, k0, k1, k2⟩ sl (.e k3 ⟨⟨v⟩⟩ tV k4 m tm k5 X tX k6 r)), (mt, tuI tu 0), (tu, tupM t1 t2)])
   (hR : ∀ s' sl' k3' V' tV' k4' m' tm' k5' X' tX' k6' r', HpW (W3 w a b c) s'.heap [(L, lawFr (W3 w a b c) ⟨sc, u, ⟨⟨n⟩⟩, tN, k0, k1, k2⟩ sl' (.e k3' V' tV' k4' m' tm' k5' X' tX' k6' r'))] → Beh [L, mt, tu] s s' → R (.ok .next) s') : wpCode (model prg (W3 w a b c)) (gM mt it L q) R p s := by
 refine mb_0e PL hn hv H fun s1 p1 sl1 k41 k51 X1 tX1 k61 h1 b1 => ?_
 refine mb_1e PL hn hv h1 fun s2 p2 sl2 k42 k52 X2 tX2 k62 h2 b2 => ?_
 refine lmE h2 fun s3 h3 b3 => ?_
 exact hR s3 sl2 _ _ _ _ _ _ _ _ _ _ _ h3 (Beh.trans (Beh.trans b1 b2 (by simp)) b3 (by simp))
end
end Mine
end
section
namespace Mine
open PySem PySem.W PySem.Calls
noncomputable def LS.ok : LS → Prop
 | .a => True
 | .e .. => True
 | _ => False
section
variable {w : World} {a b c : Bool} {L it l sc u tN k0 k1 k2 : Nat} {n : List Nat} {q : Pos} {R : Result → Shared → Prop}
theorem vb (PL : Plain) (hn : n.length ≤ 12) {v : List Nat} {tv : Nat} (hv : v.length ≤ 12) {st : LS} (hst : st.ok) {sl : Array (Option Value)} {s s1 : Shared} {B i : Nat} {p : Pos}
   (H : HpW (W3 w a b c) s1.heap [(L, lawFr (W3 w a b c) ⟨sc, u, ⟨⟨n⟩⟩, tN, k0, k1, k2⟩ sl st), (it, itO l (i + 1))])
   (Q : ∀ s' p' sl' st', LS.ok st' → HpW (W3 w a b c) s'.heap [(L, lawFr (W3 w a b c) ⟨sc, u, ⟨⟨n⟩⟩, tN, k0, k1, k2⟩ sl' st'), (it, itO l (i + 1))] → Beh [L, it] s1 s' → Dead s1 s' → wpCode (model prg (W3 w a b c)) (gV it L q) R p' s') :
   Mn (model prg (W3 w a b c)) R (cfΓ (rV1 (W3 w a b c) s B L ⟨sc, u, ⟨⟨n⟩⟩, tN, k0, k1, k2⟩ sl st it l i q p)) (cfp (rV1 (W3 w a b c) s B L ⟨sc, u, ⟨⟨n⟩⟩, tN, k0, k1, k2⟩ sl st it l i q p)) (cfκ (rV1 (W3 w a b c) s B L ⟨sc, u, ⟨⟨n⟩⟩, tN, k0, k1, k2⟩ sl st it l i q p)) (ansT (rV1 (W3 w a b c) s B L ⟨sc, u, ⟨⟨n⟩⟩, tN, k0, k1, k2⟩ sl st it l i q p) (.ok (.ret (.str ⟨⟨v⟩⟩ tv)))) s1 := by
 have core : ∀ {f2 : LS} {B1 : Nat} {s2 s3 : Shared} {sl' : Array (Option Value)} {st' : LS} {t1 t2 : Nat}, s1.heap.objs.size = B1 + 2 →
     HpW (W3 w a b c) s2.heap [(L, lawFr (W3 w a b c) ⟨sc, u, ⟨⟨n⟩⟩, tN, k0, k1, k2⟩ sl f2), (it, itO l (i + 1)), (B1 + 2, tupM t1 t2), (B1 + 3, tuI (B1 + 2) 0)] → Beh [L, it] s1 s2 → LS.ok st' →
     HpW (W3 w a b c) s3.heap [(L, lawFr (W3 w a b c) ⟨sc, u, ⟨⟨n⟩⟩, tN, k0, k1, k2⟩ sl' st')] → Beh [L, B1 + 3, B1 + 2] s2 s3 →
     ∀ s4 p4, HpW (W3 w a b c) s4.heap [] → Beh [] s3 s4 → wpCode (model prg (W3 w a b c)) (gV it L q) R p4 s4 := by
   intro f2 B1 s2 s3 sl' st' t1 t2 hB h2 b2 hs h3 b3 s4 p4 h4 b4
   have dz : ∀ z, B1 + 2 ≤ z → s1.heap.get? z = none := fun z hz => Heap.get?_none_of_le (by omega)
   have hP : HpW (W3 w a b c) s2.heap ([(L, lawFr (W3 w a b c) ⟨sc, u, ⟨⟨n⟩⟩, tN, k0, k1, k2⟩ sl f2), (B1 + 2, tupM t1 t2), (B1 + 3, tuI (B1 + 2) 0)] ++ [(it, itO l (i + 1))]) := h2.perm (List.Perm.cons _ ((List.Perm.swap _ _ _).trans (List.Perm.cons _ (List.Perm.swap _ _ _))))
   have HJ := Hp.join2 hP h3 b3 (fun z hz => .inl (by
     simp only [List.mem_cons, List.not_mem_nil, or_false] at hz
     rcases hz with h | h | h <;> simp [h])) (fun z hz => by rw [List.mem_singleton.mp hz]; exact .inl (by simp))
   refine Q s4 p4 sl' st' hs (Hp.keep HJ h4 b4) ?_ ?_
   · refine Beh.drop (as := [L, it, B1 + 3, B1 + 2]) (Beh.trans (Beh.trans (Beh.widen b2 (by simp)) b3 (by simp)) b4 (by simp)) fun z hz => ?_
     simp only [List.mem_cons, List.not_mem_nil, or_false] at hz
     rcases hz with h | h | h | h
     · exact .inl (by simp [h])
     · exact .inl (by simp [h])
     · exact .inr (h ▸ dz _ (by omega))
     · exact .inr (h ▸ dz _ (by omega))
   · have e1 : Dead s1 s2 := dead_of b2 fun z hz => hp_live h2 (by
       simp only [List.mem_cons, List.not_mem_nil, or_false] at hz
       rcases hz with h | h <;> simp [h])
     intro z hz
     have hz3 := dead_nil b4 _ hz
     by_cases h : B1 + 2 ≤ z
     · exact dz z h
     · refine e1 z ?_
       cases hq : s2.heap.get? z with
       | none => rfl
       | some o =>
         by_cases hL : z = L
         · exact absurd (hL ▸ hz3) (hp_live h3 (by simp))
         · have := b3.keep z o hq (fun hm => by
             simp only [List.mem_cons, List.not_mem_nil, or_false] at hm
             rcases hm with e | e | e
             · exact hL e
             · exact h (e ▸ Nat.le_succ _)
             · exact h (e ▸ Nat.le_refl _))
           rw [hz3] at this; cases this
 cases st with
 | a =>
   refine lv2a H fun B1 s2 p2 hB h2 b2 => ?_
   have hP := h2.perm (List.Perm.cons _ ((List.Perm.swap _ _ _).trans (List.Perm.cons _ (List.Perm.swap _ _ _))))
   refine ml_b PL hn hv ((Hp.part (A := [(L, lawFr (W3 w a b c) ⟨sc, u, ⟨⟨n⟩⟩, tN, k0, k1, k2⟩ sl (.b s1.toks ⟨⟨v⟩⟩ tv)), (B1 + 2, tupM (s1.toks + 1) (s1.toks + 2)), (B1 + 3, tuI (B1 + 2) 0)]) (C := [(it, itO l (i + 1))]) hP).perm (List.Perm.cons _ (List.Perm.swap _ _ _))) fun s3 sl' k3' V' tV' k4' m' tm' k5' X' tX' k6' r' h3 b3 => ?_
   exact lv3a h3.nil (core hB h2 b2 (st' := .e k3' V' tV' k4' m' tm' k5' X' tX' k6' r') trivial h3 b3)
 | e k3 V tV k4 m tm k5 X tX k6 r =>
   refine lv2e H fun B1 s2 p2 hB h2 b2 => ?_
   have hP := h2.perm (List.Perm.cons _ ((List.Perm.swap _ _ _).trans (List.Perm.cons _ (List.Perm.swap _ _ _))))
   refine ml_e PL hn hv ((Hp.part (A := [(L, lawFr (W3 w a b c) ⟨sc, u, ⟨⟨n⟩⟩, tN, k0, k1, k2⟩ sl (.e k3 ⟨⟨v⟩⟩ tv k4 m tm k5 X tX k6 r)), (B1 + 2, tupM (s1.toks + 1) (s1.toks + 2)), (B1 + 3, tuI (B1 + 2) 0)]) (C := [(it, itO l (i + 1))]) hP).perm (List.Perm.cons _ (List.Perm.swap _ _ _))) fun s3 sl' k3' V' tV' k4' m' tm' k5' X' tX' k6' r' h3 b3 => ?_
   exact lv3e h3.nil (core hB h2 b2 (st' := .e k3' V' tV' k4' m' tm' k5' X' tX' k6' r') trivial h3 b3)
 | b => exact hst.elim
 | c => exact hst.elim
 | d => exact hst.elim
theorem v_loop (PL : Plain) (hn : n.length ≤ 12) {ws : List Value} {vs : List (List Nat)} (hw : IsStrs ws vs) (hv : ∀ v ∈ vs, v.length ≤ 12) {s₀ : Shared}
   (K : ∀ s', HpW (W3 w a b c) s'.heap [] → Beh [L, it] s₀ s' → R (.ok .next) s') :
   ∀ (k i : Nat) (s : Shared) (p : Pos) (sl : Array (Option Value)) (st : LS), i + k = ws.length → st.ok → HpW (W3 w a b c) s.heap ([(L, lawFr (W3 w a b c) ⟨sc, u, ⟨⟨n⟩⟩, tN, k0, k1, k2⟩ sl st), (it, itO l i)] ++ [(l, listO ws 0)]) →
     Beh [L, it] s₀ s → Dead s₀ s → wpCode (model prg (W3 w a b c)) (gV it L q) R p s := by
 intro k
 induction k with
 | zero =>
   intro i s p sl st hi hs H b0 D0
   refine lv1 (Hp.part H) fun B s1 p1 h1 b1 => ?_
   have H1 := Hp.join H h1 b1 rfl
   have D1 : Dead s s1 := dead_of b1 fun z hz => hp_live h1 hz
   have hx : ws[i]? = none := List.getElem?_eq_none (by omega)
   refine next_end rfl rfl (Hp.sub (List.Sublist.cons _ (List.Sublist.refl _)) H1) hx fun s2 e t h2 b2 de dt => ?_
   refine lvE (e := e) (t := t) (Hp.sub (List.Sublist.cons _ (List.Sublist.cons _ (List.Sublist.cons _ (List.Sublist.refl _)))) h2) fun s3 h3 b3 => ?_
   refine K s3 h3.nil ?_
   refine Beh.drop (as := [L, it, e]) (Beh.trans (Beh.trans (Beh.trans (Beh.widen b0 (by simp)) b1 (by simp)) b2 (by simp)) b3 (by simp)) fun z hz => ?_
   simp only [List.mem_cons, List.not_mem_nil, or_false] at hz
   rcases hz with h | h | h
   · exact .inl (by simp [h])
   · exact .inl (by simp [h])
   · exact .inr (h ▸ (D0.trans D1) _ de)
 | succ k ih =>
   intro i s p sl st hi hs H b0 D0
   refine lv1 (Hp.part H) fun B s1 p1 h1 b1 => ?_
   have H1 := Hp.join H h1 b1 rfl
   have D1 : Dead s s1 := dead_of b1 fun z hz => hp_live h1 hz
   have hlt : i < ws.length := by omega
   obtain ⟨v, tv, hv1, hv2⟩ : ∃ v tv, ws[i]? = some (.str ⟨⟨v⟩⟩ tv) ∧ v ∈ vs := by
     clear H H1 h1 b1 K ih
     have : ∀ {ws : List Value} {vs : List (List Nat)}, IsStrs ws vs → ∀ i, i < ws.length → ∃ v tv, ws[i]? = some (.str ⟨⟨v⟩⟩ tv) ∧ v ∈ vs := by
       intro ws
       induction ws with
       | nil => intro vs h i hi; exact absurd hi (Nat.not_lt_zero _)
       | cons w ws ih =>
         intro vs h i hi
         cases vs with
         | nil => exact h.elim
         | cons x xs =>
           obtain ⟨⟨t, e⟩, h2⟩ := h
           cases i with
           | zero => exact ⟨x, t, by rw [e]; rfl, List.mem_cons_self ..⟩
           | succ i =>
             obtain ⟨v, tv, e1, e2⟩ := ih h2 i (by simpa using hi)
             exact ⟨v, tv, by simpa using e1, List.mem_cons_of_mem _ e2⟩
     exact this hw i hlt
   refine next_item rfl (Hp.sub (List.Sublist.cons _ (List.Sublist.refl _)) H1) hv1 fun s2 h2 b2 => ?_
   have HP : HpW (W3 w a b c) s1.heap ([(it, itO l i), (l, listO ws 0)] ++ [(L, lawFr (W3 w a b c) ⟨sc, u, ⟨⟨n⟩⟩, tN, k0, k1, k2⟩ sl st)]) := Hp.swap (A := [(L, lawFr (W3 w a b c) ⟨sc, u, ⟨⟨n⟩⟩, tN, k0, k1, k2⟩ sl st)]) (C := [(it, itO l i), (l, listO ws 0)]) H1
   have H2 := Hp.join (A := [(it, itO l i), (l, listO ws 0)]) HP h2 (Beh.widen b2 (by simp)) rfl
   have H2' : HpW (W3 w a b c) s2.heap ([(L, lawFr (W3 w a b c) ⟨sc, u, ⟨⟨n⟩⟩, tN, k0, k1, k2⟩ sl st), (it, itO l (i + 1))] ++ [(l, listO ws 0)]) := Hp.swap (A := [(it, itO l (i + 1)), (l, listO ws 0)]) (C := [(L, lawFr (W3 w a b c) ⟨sc, u, ⟨⟨n⟩⟩, tN, k0, k1, k2⟩ sl st)]) H2
   have D2 : Dead s1 s2 := dead_of b2 fun z hz => hp_live h2 (by rw [List.mem_singleton.mp hz]; simp)
   refine vb PL hn (hv v hv2) hs (Hp.part H2') fun s3 p3 sl' st' hs' h3 b3 D3 => ?_
   have H3 := Hp.join H2' h3 b3 rfl
   exact ih (i + 1) s3 p3 sl' st' (by omega) hs' H3 (Beh.trans (Beh.trans (Beh.trans b0 b1 (by simp)) b2 (by simp)) b3 (by simp)) (((D0.trans D1).trans D2).trans D3)
end
theorem beh_own {x : Nat × Obj} {s s' : Shared} (b : Beh [x.1] s s') (h : s.heap.get? x.1 = some x.2) (h' : s'.heap.get? x.1 = some x.2) : Beh [] s s' :=
 ⟨fun z o g _ => by
   by_cases n : z = x.1
   · rw [n, h] at g
     rw [n, h', g]
   · exact b.keep z o g (by simpa using n), b.gens, b.drawn, b.os⟩
theorem law_spec (PL : Plain) {w : World} {a b c : Bool} {s : Shared} {sc cc : Nat} {vs : List Value} {q p : Pos} {R : Result → Shared → Prop} (H : HpW (W3 w a b c) s.heap [(sc, listO vs cc)]) (hi : IsInts vs) (hl : vs.length ≤ 1000)
   (hR : ∀ s', HpW (W3 w a b c) s'.heap [] → Beh [] s s' → R (.ok (.ret (.bool true))) s') : wpCode (model prg (W3 w a b c)) (gLW sc q) R p s := by
 refine la1 H fun B s1 p1 hB h1 b1 => ?_
 have b1' : Beh [] s s1 := beh_own (x := (sc, listO vs cc)) b1 (H.own _ (by simp)) (h1.own _ (by simp))
 have D1 : Dead s s1 := dead_of b1 fun z hz => hp_live h1 (by rw [List.mem_singleton.mp hz]; simp)
 have dL : s.heap.get? (B + 1) = none := Heap.get?_none_of_le (by omega)
 refine lp_spec (Hp.sub (List.Sublist.cons_cons _ (List.nil_sublist _)) h1) hi hl ?_
 intro s2 u vals ps c' iv hne hpl hpx du h2 b2 d2
 have HJ := Hp.join2 (A := [(sc, listO vs cc)]) (C := [(B + 1, lwF1 (W3 w a b c) sc s.toks)]) h1 h2 (b2.widen (by simp)) (fun z hz => .inl hz) (fun z hz => by rw [List.mem_singleton.mp hz]; exact .inr du)
 cases ps with
 | nil => exact absurd rfl hne
 | cons P pr =>
   cases vals with
   | nil => exact iv.elim
   | cons v0 vr =>
     obtain ⟨⟨tY, e0⟩, iv2⟩ := id iv
     subst e0
     have hlen := iv.length
     have hx : idxOk 0 ((Value.str ⟨⟨P⟩⟩ tY) :: vr).length = true := by
       unfold idxOk
       simp only [Bool.and_eq_true, decide_eq_true_eq, List.length_cons]
       exact ⟨⟨⟨by omega, by omega⟩, by decide⟩, by decide⟩
     have dlt : s.heap.get? u = none := D1 _ du
     refine la2 rfl hx (HJ.perm (List.Perm.swap _ _ _)) fun B1 s3 p3 hB1 h3 b3 => ?_
     refine name_cut rfl (h3.own (B1 + 2, slO .none (.int 2 (s2.toks + 2)) .none) (by simp)) (hpx P (List.mem_cons_self ..)) fun s4 N tN hN e4 b4 => ?_
     have h4 := toks_beh e4 b4 h3
     refine la3 (Hp.sub (List.Sublist.cons_cons _ (List.Sublist.cons_cons _ (List.nil_sublist _))) h4) fun B2 s5 p5 hB2 h5 b5 => ?_
     have D3 : Dead s2 s3 := dead_of b3 fun z hz => hp_live h3 (by
       simp only [List.mem_cons, List.not_mem_nil, or_false] at hz
       rcases hz with h | h <;> simp [h])
     have D5 : Dead s4 s5 := dead_of b5 fun z hz => hp_live h5 (by
       simp only [List.mem_cons, List.not_mem_nil, or_false] at hz
       rcases hz with h | h <;> simp [h])
     have Ds5 : Dead s s5 := (((D1.trans d2).trans D3).trans (dead_nil b4)).trans D5
     refine list_plus rfl (Hp.sub (List.Sublist.cons _ (List.Sublist.refl _)) h5) (by rw [hlen]; simp only [List.length_singleton]; omega) fun s6 lw h6 b6 d6 => ?_
     have H6 := (Hp.new (C := [(B + 1, lawFr (W3 w a b c) ⟨sc, u, ⟨⟨N⟩⟩, tN, s.toks, s2.toks, s4.toks⟩ #[] .a)]) (Hp.sub (List.Sublist.cons_cons _ (List.nil_sublist _)) h5) h6 b6 (fun z hz => by rw [List.mem_singleton.mp hz]; exact d6)).perm (List.Perm.swap _ _ _)
     refine la4 H6 fun B3 s7 p7 hB3 h7 b7 => ?_
     have dl : s.heap.get? lw = none := Ds5 _ d6
     have ds6 : Dead s s6 := Ds5.trans (dead_nil b6)
     have dit : s.heap.get? (B3 + 2) = none := ds6 _ (Heap.get?_none_of_le (by omega))
     have b07 : Beh [] s s7 := by
       refine Beh.drop (as := [B + 1, u, lw]) (Beh.trans (Beh.trans (Beh.trans (Beh.trans (Beh.trans (Beh.trans (Beh.widen b1' (by simp)) b2 (by simp)) b3 (by simp)) b4 (by simp)) b5 (by simp)) b6 (by simp)) b7 (by simp)) fun z hz => ?_
       simp only [List.mem_cons, List.not_mem_nil, or_false] at hz
       rcases hz with h | h | h
       · exact .inr (h ▸ dL)
       · exact .inr (h ▸ dlt)
       · exact .inr (h ▸ dl)
     have iw : IsStrs ((Value.str ⟨⟨P⟩⟩ tY) :: vr ++ [.str ⟨⟨[105,116,39,115]⟩⟩ (s4.toks + 1)]) (P :: pr ++ [[105,116,39,115]]) := iv.append ⟨⟨_, rfl⟩, trivial⟩
     refine v_loop PL hN iw (fun v hv => ?_) (s₀ := s7) (fun s8 h8 b8 => ?_) _ 0 s7 p7 #[] .a (by rw [Nat.zero_add]) trivial (h7.perm (List.Perm.cons _ (List.Perm.swap _ _ _))) (Beh.refl _ _) (Dead.refl _)
     · rcases List.mem_append.mp hv with h | h
       · exact hpx v h
       · rw [List.mem_singleton.mp h]; decide
     · refine la5 h8 fun s9 h9 b9 => hR s9 h9 ?_
       refine Beh.drop (as := [B + 1, B3 + 2]) (Beh.trans (Beh.trans (Beh.widen b07 (by simp)) b8 (by simp)) b9 (by simp)) fun z hz => ?_
       simp only [List.mem_cons, List.not_mem_nil, or_false] at hz
       rcases hz with h | h
       · exact .inr (h ▸ dL)
       · exact .inr (h ▸ dit)
end Mine
end
section
namespace Mine
open PySem PySem.W PySem.Calls
noncomputable def LexT (cm : Bool) (md : Md) (l : List Nat) (o : Lo) : Prop := ∃ n, lexF cm n md l = o
theorem LexT.go {cm : Bool} {md md' : Md} {l l' : List Nat} {o : Lo} (h : turnF cm md l = .inl (md', l')) (H : LexT cm md' l' o) : LexT cm md l o := by
 obtain ⟨n, e⟩ := H
 exact ⟨n + 1, by unfold lexF; rw [h]; exact e⟩
theorem LexT.fin {cm : Bool} {md : Md} {l : List Nat} {o : Lo} (h : turnF cm md l = .inr o) : LexT cm md l o := ⟨1, by unfold lexF; rw [h]⟩
noncomputable def TkM (cm : Bool) (md : Md) (l : List Nat) (ts : List (List Nat)) (er : Bool) : Prop :=
 (∃ st t qd l', LexT cm md l (.brk st t qd l') ∧ rtRes t qd = none ∧ ts = [] ∧ er = false) ∨
 (∃ t qd, LexT cm md l (.brk false t qd []) ∧ rtRes t qd = some ⟨⟨t⟩⟩ ∧ ts = [t] ∧ er = false) ∨
 (∃ t qd l' ts', LexT cm md l (.brk true t qd l') ∧ rtRes t qd = some ⟨⟨t⟩⟩ ∧ (∃ k, l' = l.drop k) ∧ Toks cm l' ts' er ∧ ts = t :: ts') ∨
 (LexT cm md l .err ∧ ts = [] ∧ er = true)
theorem TkM.toks {cm : Bool} {l : List Nat} {ts : List (List Nat)} {er : Bool} (h : TkM cm .sp l ts er) : Toks cm l ts er := by
 rcases h with ⟨st, t, qd, l', ⟨n, h1⟩, h2, rfl, rfl⟩ | ⟨t, qd, ⟨n, h1⟩, h2, rfl, rfl⟩ | ⟨t, qd, l', ts', ⟨n, h1⟩, h2, h3, h4, rfl⟩ | ⟨⟨n, h1⟩, rfl, rfl⟩
 · exact .stop h1 h2
 · exact .last h1 h2
 · exact .more h1 h2 h3 h4
 · exact .err h1
theorem TkM.go {cm : Bool} {md md' : Md} {l l' : List Nat} {ts : List (List Nat)} {er : Bool} (h : turnF cm md l = .inl (md', l')) (hd : ∃ j, l' = l.drop j) (H : TkM cm md' l' ts er) : TkM cm md l ts er := by
 obtain ⟨j, hj⟩ := hd
 rcases H with ⟨st, t, qd, l2, h1, h2, h3, h4⟩ | ⟨t, qd, h1, h2, h3, h4⟩ | ⟨t, qd, l2, ts', h1, h2,⟨k, h3⟩, h4, h5⟩ | ⟨h1, h2, h3⟩
 · exact .inl ⟨st, t, qd, l2, h1.go h, h2, h3, h4⟩
 · exact .inr (.inl ⟨t, qd, h1.go h, h2, h3, h4⟩)
 · exact .inr (.inr (.inl ⟨t, qd, l2, ts', h1.go h, h2,⟨j + k, by rw [h3, hj, List.drop_drop]⟩, h4, h5⟩))
 · exact .inr (.inr (.inr ⟨h1.go h, h2, h3⟩))
theorem TkM.skip {cm : Bool} {md md' : Md} {k : Nat} {r : List Nat} {ts : List (List Nat)} {er : Bool} (h : turnF cm md (k :: r) = .inl (md', r)) (H : TkM cm md' r ts er) : TkM cm md (k :: r) ts er := TkM.go h ⟨1, rfl⟩ H
theorem rt_some {t : List Nat} {qd : Bool} (h : t = [] → qd = true) : rtRes t qd = some ⟨⟨t⟩⟩ := by
 unfold rtRes
 cases t with
 | nil => rw [h rfl]; rfl
 | cons => rfl
theorem ne_qd {t : List Nat} {qd : Bool} (h : t = [] → qd = true) : (t.isEmpty && !qd) = false := by
 cases t with
 | nil => rw [h rfl]; rfl
 | cons => rfl
theorem tk_last {cm : Bool} {t : List Nat} {qd : Bool} (h : t = [] → qd = true) : TkM cm (.a t qd) [] [t] false :=
 .inr (.inl ⟨t, qd, LexT.fin rfl, rt_some h, rfl, rfl⟩)
theorem a_step {cm : Bool} {t : List Nat} {qd : Bool} {k : Nat} {r : List Nat} (h1 : isWs k = false) (h2 : (k == 35 && cm) = false) (h3 : k ≠ 92) (h4 : k ≠ 39) (h5 : k ≠ 34) : turnF cm (.a t qd) (k :: r) = .inl (.a (t ++ [k]) qd, r) := by
 show turnA cm t qd k r = _
 unfold turnA
 rw [h1, h2]; simp [h3, h4, h5]
theorem d_step {cm : Bool} {t : List Nat} {qd : Bool} {k : Nat} {r : List Nat} (h1 : k ≠ 34) (h2 : k ≠ 92) (h3 : (t.isEmpty && k == 10) = false) : turnF cm (.d t qd) (k :: r) = .inl (.d (t ++ [k]) true, r) := by
 have e1 : (k == 34) = false := by simp [h1]
 have e2 : (k == 92) = false := by simp [h2]
 unfold turnF
 simp only [e1, e2, h3, if_false, Bool.false_eq_true]
theorem q_step {cm : Bool} {t : List Nat} {qd : Bool} {k : Nat} {r : List Nat} (h1 : k ≠ 39) : turnF cm (.q t qd) (k :: r) = .inl (.q (t ++ [k]) true, r) := by
 have e1 : (k == 39) = false := by simp [h1]
 unfold turnF
 simp only [e1, if_false, Bool.false_eq_true]
theorem safe_sign {k : Nat} (h : S62 k = false) : isWs k = false ∧ k ≠ 35 ∧ k ≠ 92 ∧ k ≠ 39 ∧ k ≠ 34 := by
 have f : ∀ z, S62 z = true → k ≠ z := fun z hz e => by rw [e, hz] at h; cases h
 have h10 := f 10 (by decide +kernel)
 have h32 := f 32 (by decide +kernel)
 have h9 := f 9 (by decide +kernel)
 have h13 := f 13 (by decide +kernel)
 refine ⟨by simp [isWs, h10, h32, h9, h13], f 35 (by decide +kernel), f 92 (by decide +kernel), f 39 (by decide +kernel), f 34 (by decide +kernel)⟩
theorem a_name {cm : Bool} {r : List Nat} {ts : List (List Nat)} {er qd : Bool} : ∀ (n t : List Nat), (∀ k ∈ n, S62 k = false) → TkM cm (.a (t ++ n) qd) r ts er → TkM cm (.a t qd) (n ++ r) ts er
 | [], t, _, H => by rw [List.append_nil] at H; exact H
 | k :: n, t, h, H => by
   obtain ⟨h1, h2, h3, h4, h5⟩ := safe_sign (h k (List.mem_cons_self ..))
   refine TkM.skip (a_step h1 (by simp [h2]) h3 h4 h5) ?_
   exact a_name n (t ++ [k]) (fun z hz => h z (List.mem_cons_of_mem _ hz)) (by rw [List.append_assoc]; exact H)
theorem q_name {cm : Bool} {r : List Nat} {ts : List (List Nat)} {er : Bool} : ∀ (n t : List Nat) (qd : Bool), TkM cm (.a (t ++ n) true) r ts er → TkM cm (.q t qd) (subst 39 [39,34,39,34,39] n ++ 39 :: r) ts er
 | [], t, qd, H => by rw [List.append_nil] at H; exact TkM.skip (md' := .a t true) rfl H
 | k :: n, t, qd, H => by
   have e : subst 39 [39,34,39,34,39] (k :: n) = (if k = 39 then [39,34,39,34,39] else [k]) ++ subst 39 [39,34,39,34,39] n := rfl
   rw [e]
   have ih := q_name (cm := cm) (r := r) (ts := ts) (er := er) n (t ++ [k]) true (by rw [List.append_assoc]; exact H)
   by_cases hk : k = 39
   · rw [if_pos hk]
     subst hk
     refine TkM.skip (md' := .a t true) rfl ?_
     refine TkM.skip (md' := .d t true) (by show turnA cm t true 34 _ = _; unfold turnA; simp [isWs]) ?_
     refine TkM.skip (md' := .d (t ++ [39]) true) (d_step (by decide) (by decide) (by simp)) ?_
     refine TkM.skip (md' := .a (t ++ [39]) true) rfl ?_
     refine TkM.skip (md' := .q (t ++ [39]) true) (by show turnA cm (t ++ [39]) true 39 _ = _; unfold turnA; simp [isWs]) ?_
     exact ih
   · rw [if_neg hk]
     refine TkM.skip (md' := .q (t ++ [k]) true) (q_step hk) ?_
     exact ih
theorem name_read {cm : Bool} (n : List Nat) : ∃ qd : Bool, (n = [] → qd = true) ∧ ∀ (r : List Nat) (ts : List (List Nat)) (er : Bool), TkM cm (.a n qd) r ts er → TkM cm .sp (quoteF n ++ r) ts er := by
 unfold quoteF
 split
 · rename_i h
   subst h
   refine ⟨true, fun _ => rfl, fun r ts er H => ?_⟩
   refine TkM.skip (md' := .q [] false) rfl ?_
   exact TkM.skip (md' := .a [] true) rfl H
 · rename_i h
   split
   · refine ⟨true, fun _ => rfl, fun r ts er H => ?_⟩
     rw [List.append_assoc, List.append_assoc]
     refine TkM.skip (md' := .q [] false) rfl ?_
     exact q_name n [] false H
   · rename_i h2
     cases n with
     | nil => exact absurd rfl h
     | cons k n =>
       have hs : ∀ z ∈ k :: n, S62 z = false := fun z hz => by
         cases hq : S62 z with
         | false => rfl
         | true => exact absurd (List.any_eq_true.mpr ⟨z, hz, hq⟩) h2
       obtain ⟨h1, h2, h3, h4, h5⟩ := safe_sign (hs k (List.mem_cons_self ..))
       refine ⟨false, (fun e => nomatch e), fun r ts er H => ?_⟩
       refine TkM.skip (md' := .a [k] false) (by show turnSp cm k _ = _; unfold turnSp; rw [h1]; simp [h2, h3, h4, h5]) ?_
       exact a_name n [k] (fun z hz => hs z (List.mem_cons_of_mem _ hz)) H
theorem esc_cons (k : Nat) (v : List Nat) : escF (k :: v) = (if k = 92 then [92,92] else if k = 34 then [92,34] else [k]) ++ escF v := by
 have e : escF (k :: v) = subst 34 [92,34] (if k = 92 then [92,92] else [k]) ++ escF v := by
   unfold escF
   rw [← subst_append]; rfl
 rw [e]
 by_cases h : k = 92
 · subst h; rfl
 · rw [if_neg h, if_neg h]
   by_cases h2 : k = 34
   · subst h2; rfl
   · rw [if_neg h2, subst_free 34 [92,34] [k] (by simpa using Ne.symm h2)]
theorem b_step {cm : Bool} {t : List Nat} {qd : Bool} {k : Nat} {r : List Nat} (h1 : k = 92 ∨ k = 34) (h2 : t ≠ []) : turnF cm (.b t qd) (k :: r) = .inl (.d (t ++ [k]) qd, r) := by
 have e1 : ((k == 92 || k == 34) && !t.isEmpty) = true := by
   cases t with
   | nil => exact absurd rfl h2
   | cons => rcases h1 with rfl | rfl <;> rfl
 unfold turnF
 simp only [e1, if_true]
theorem d_value {cm : Bool} {r : List Nat} {ts : List (List Nat)} {er : Bool} : ∀ (v t : List Nat) (qd : Bool), t ≠ [] → TkM cm (.a (t ++ v) true) r ts er → TkM cm (.d t qd) (escF v ++ 34 :: r) ts er
 | [], t, qd, ht, H => by rw [List.append_nil] at H; exact TkM.skip (md' := .a t true) rfl H
 | k :: v, t, qd, ht, H => by
   have ih := d_value (cm := cm) (r := r) (ts := ts) (er := er) v (t ++ [k]) true (by simp) (by rw [List.append_assoc]; exact H)
   rw [esc_cons, List.append_assoc]
   by_cases h : k = 92
   · subst h
     rw [if_pos rfl]
     exact TkM.skip (md' := .b t true) rfl (TkM.skip (b_step (.inl rfl) ht) ih)
   · rw [if_neg h]
     by_cases h2 : k = 34
     · subst h2
       rw [if_pos rfl]
       exact TkM.skip (md' := .b t true) rfl (TkM.skip (b_step (.inr rfl) ht) ih)
     · rw [if_neg h2]
       have h3 : (t.isEmpty && k == 10) = false := by
         cases t with
         | nil => exact absurd rfl ht
         | cons => rfl
       exact TkM.skip (d_step h2 h h3) ih
noncomputable def OutK (cm : Bool) (md : Md) (l : List Nat) : Option (List (List Nat)) → Prop
 | some ts => TkM cm md l ts false ∧ ts.length ≤ l.length + 1
 | none => ∃ ts, TkM cm md l ts true ∧ ts.length ≤ l.length + 1
theorem OutK.skip {cm : Bool} {md md' : Md} {k : Nat} {r : List Nat} {o : Option (List (List Nat))} (h : turnF cm md (k :: r) = .inl (md', r)) (H : OutK cm md' r o) : OutK cm md (k :: r) o := by
 cases o with
 | some ts => exact ⟨TkM.skip h H.1, by have := H.2; simp only [List.length_cons]; omega⟩
 | none =>
   obtain ⟨ts, h1, h2⟩ := H
   exact ⟨ts, TkM.skip h h1, by simp only [List.length_cons]; omega⟩
theorem OutK.cut {cm : Bool} {md : Md} {t : List Nat} {qd : Bool} {k j : Nat} {r r' : List Nat} {o : Option (List (List Nat))} (h : turnF cm md (k :: r) = .inr (.brk true t qd r')) (hj : r' = r.drop j) (ht : t = [] → qd = true) (H : OutK cm .sp r' o) : OutK cm md (k :: r) (o.map ([t] ++ ·)) := by
 have hl : r'.length ≤ r.length := by rw [hj, List.length_drop]; omega
 cases o with
 | some ts => exact ⟨.inr (.inr (.inl ⟨t, qd, r', ts, LexT.fin h, rt_some ht, ⟨j + 1, by rw [hj]; rfl⟩, H.1.toks, rfl⟩)), by have := H.2; simp only [List.length_cons, List.length_append, List.length_nil]; omega⟩
 | none =>
   obtain ⟨ts, h1, h2⟩ := H
   exact ⟨t :: ts, .inr (.inr (.inl ⟨t, qd, r', ts, LexT.fin h, rt_some ht, ⟨j + 1, by rw [hj]; rfl⟩, h1.toks, rfl⟩)), by simp only [List.length_cons]; omega⟩
theorem OutK.hop {cm : Bool} {k : Nat} {r r' : List Nat} {o : Option (List (List Nat))} (j : Nat) (h : turnF cm .sp (k :: r) = .inl (.sp, r')) (hj : r' = r.drop j) (H : OutK cm .sp r' o) : OutK cm .sp (k :: r) o := by
 have hl : r'.length ≤ r.length := by rw [hj, List.length_drop]; omega
 cases o with
 | some ts => exact ⟨TkM.go h ⟨j + 1, by rw [hj]; rfl⟩ H.1, by have := H.2; simp only [List.length_cons]; omega⟩
 | none =>
   obtain ⟨ts, h1, h2⟩ := H
   exact ⟨ts, TkM.go h ⟨j + 1, by rw [hj]; rfl⟩ h1, by simp only [List.length_cons]; omega⟩
theorem ws_of {y : Nat} (h32 : y ≠ 32) : isWs y = decide (y = 9 ∨ y = 13 ∨ y = 10) := by
 rw [Bool.eq_iff_iff]
 simp [isWs, h32]
 omega
theorem pastLine_nl (l : List Nat) : pastLine (10 :: l) = l := rfl
theorem pastLine_cons {y : Nat} (h : y ≠ 10) (l : List Nat) : pastLine (y :: l) = pastLine l := by
 unfold pastLine
 show (y :: l).drop (if y = 10 then 1 else skipTo 10 l + 1) = _
 rw [if_neg h]; rfl
theorem bare_all (rm : Bool) : ∀ l : List Nat, (∀ k ∈ l, k ≠ 32 ∧ k ≠ 34 ∧ k ≠ 92) →
   (∀ t qd, (t = [] → qd = true) → OutK rm (.a t qd) l (bareM rm .out (some t) l)) ∧ OutK rm .sp l (bareM rm .out none l) ∧ (∀ t qd, OutK rm (.q t qd) l (bareM rm .quo (some t) l)) ∧ (rm = true → OutK rm .sp (pastLine l) (bareM rm .com none l))
 | [], _ => by
   refine ⟨fun t qd h => ?_, ?_, fun t qd => ?_, fun _ => ?_⟩
   · rw [bareM]; exact ⟨tk_last h, by simp⟩
   · rw [bareM]; exact ⟨.inl ⟨false, [], false, [], LexT.fin rfl, rfl, rfl, rfl⟩, by simp⟩
   · rw [bareM]; exact ⟨[], .inr (.inr (.inr ⟨LexT.fin rfl, rfl, rfl⟩)), by simp⟩
   · rw [bareM]; exact ⟨.inl ⟨false, [], false, [], LexT.fin rfl, rfl, rfl, rfl⟩, by simp⟩
 | y :: l, h => by
   obtain ⟨h32, h34, h92⟩ := h y (List.mem_cons_self ..)
   obtain ⟨ia, is, iq, ic⟩ := bare_all rm l fun z hz => h z (List.mem_cons_of_mem _ hz)
   have hws := ws_of h32
   refine ⟨fun t qd ht => ?_, ?_, fun t qd => ?_, fun hrm => ?_⟩
   · rw [bo]
     have hne := ne_qd ht
     by_cases hq : y = 39
     · rw [if_pos hq]
       subst hq
       exact OutK.skip (md' := .q t qd) (by show turnA rm t qd 39 l = _; unfold turnA; simp [isWs]) (iq t qd)
     · rw [if_neg hq]
       by_cases hw : y = 9 ∨ y = 13 ∨ y = 10
       · rw [if_pos hw]
         have e : isWs y = true := by rw [hws]; exact decide_eq_true hw
         exact OutK.cut (j := 0) (by show turnA rm t qd y l = _; unfold turnA; rw [e, hne]; simp) rfl ht is
       · rw [if_neg hw]
         have e : isWs y = false := by rw [hws]; exact decide_eq_false hw
         by_cases hc : y = 35 ∧ rm = true
         · rw [if_pos hc]
           have e2 : (y == 35 && rm) = true := by simp [hc.1, hc.2]
           exact OutK.cut (j := skipTo 10 l) (by show turnA rm t qd y l = _; unfold turnA; rw [e, e2, hne]; simp [pastLine]) rfl ht (ic hc.2)
         · rw [if_neg hc]
           have e2 : (y == 35 && rm) = false := Bool.eq_false_iff.mpr fun h => hc (by simpa using h)
           exact OutK.skip (a_step e e2 h92 hq h34) (ia (t ++ [y]) qd (by simp))
   · rw [bo]
     by_cases hq : y = 39
     · rw [if_pos hq]
       subst hq
       exact OutK.skip (md' := .q [] false) rfl (iq [] false)
     · rw [if_neg hq]
       by_cases hw : y = 9 ∨ y = 13 ∨ y = 10
       · rw [if_pos hw]
         have e : isWs y = true := by rw [hws]; exact decide_eq_true hw
         have em : (bareM rm .out none l).map ((none : Option (List Nat)).toList ++ ·) = bareM rm .out none l := by
           cases bareM rm .out none l <;> rfl
         rw [em]
         exact OutK.hop 0 (by show turnSp rm y l = _; unfold turnSp; rw [e]; simp) rfl is
       · rw [if_neg hw]
         have e : isWs y = false := by rw [hws]; exact decide_eq_false hw
         by_cases hc : y = 35 ∧ rm = true
         · rw [if_pos hc]
           have e2 : (y == 35 && rm) = true := by simp [hc.1, hc.2]
           have em : (bareM rm .com none l).map ((none : Option (List Nat)).toList ++ ·) = bareM rm .com none l := by
             cases bareM rm .com none l <;> rfl
           rw [em]
           exact OutK.hop (skipTo 10 l) (by show turnSp rm y l = _; unfold turnSp; rw [e, e2]; simp [pastLine]) rfl (ic hc.2)
         · rw [if_neg hc]
           have e2 : (y == 35 && rm) = false := Bool.eq_false_iff.mpr fun h => hc (by simpa using h)
           exact OutK.skip (md' := .a [y] false) (by show turnSp rm y l = _; unfold turnSp; rw [e, e2]; simp [h92, h34, hq]) (ia [y] false (by simp))
   · rw [bq]
     by_cases hq : y = 39
     · rw [if_pos hq]
       subst hq
       exact OutK.skip (md' := .a t true) rfl (ia t true fun _ => rfl)
     · rw [if_neg hq]
       exact OutK.skip (q_step hq) (iq (t ++ [y]) true)
   · rw [bcm]
     by_cases hn : y = 10
     · rw [if_pos hn]
       subst hn
       rw [pastLine_nl]; exact is
     · rw [if_neg hn, pastLine_cons hn]; exact ic hrm
theorem s49_ts (k : Nat) : S49 k = isTs k := by
 by_cases h : k < 256
 · have : ∀ j : Fin 256, S49 j.1 = isTs j.1 := by decide +kernel
   exact this ⟨k, h⟩
 · have e1 : S49 k = false := by unfold S49; simp [h]
   have e2 : isTs k = false := by
     unfold isTs
     refine decide_eq_false fun hm => h ?_
     have : ∀ z ∈ spS.cps.toList, z < 256 := by decide +kernel
     exact this k hm
   rw [e1, e2]
theorem plain : Plain := by
 intro n v mk rm hn hv
 have hS : v.any S49 = v.any isTs := by congr 1; funext k; exact s49_ts k
 obtain ⟨qd, hqd, HN⟩ := name_read (cm := rm) n
 unfold dueF fmtF
 by_cases h0 : v = []
 · rw [if_pos h0, if_pos h0]
   refine ⟨?_, by simp⟩
   have := HN [] _ _ (tk_last hqd)
   rw [List.append_nil] at this
   exact this.toks
 · rw [if_neg h0, if_neg h0]
   by_cases h1 : mk = true ∨ v.any isTs = true
   · rw [if_pos h1, if_pos (by rw [hS]; simpa using h1)]
     refine ⟨TkM.toks ?_, by simp⟩
     rw [List.append_assoc, List.append_assoc]
     refine HN _ _ _ ?_
     refine TkM.skip (md' := .a (n ++ [61]) qd) (a_step (by decide) (by simp) (by decide) (by decide) (by decide)) ?_
     refine TkM.skip (md' := .d (n ++ [61]) qd) (by show turnA rm (n ++ [61]) qd 34 _ = _; unfold turnA; simp [isWs]) ?_
     exact d_value v (n ++ [61]) qd (by simp) (tk_last fun _ => rfl)
   · rw [if_neg h1, if_neg (by rw [hS]; simpa using h1)]
     have hk : ∀ k ∈ v, k ≠ 32 ∧ k ≠ 34 ∧ k ≠ 92 := fun k hk => by
       have hf : isTs k = false := by
         cases hq : isTs k with
         | false => rfl
         | true => exact absurd (.inr (List.any_eq_true.mpr ⟨k, hk, hq⟩)) h1
       have f : ∀ z, isTs z = true → k ≠ z := fun z hz e => by rw [e, hz] at hf; cases hf
       exact ⟨f 32 (by decide +kernel), f 34 (by decide +kernel), f 92 (by decide +kernel)⟩
     have key : ∀ (ts : List (List Nat)) (er : Bool), TkM rm (.a (n ++ [61]) qd) v ts er → Toks rm (quoteF n ++ [61] ++ v) ts er := fun ts er H => by
       rw [List.append_assoc]
       refine (HN _ _ _ ?_).toks
       exact TkM.skip (md' := .a (n ++ [61]) qd) (a_step (by decide) (by simp) (by decide) (by decide) (by decide)) H
     have hb := (bare_all rm v hk).1 (n ++ [61]) qd (by simp)
     cases ho : bareM rm .out (some (n ++ [61])) v with
     | some ts =>
       rw [ho] at hb
       exact ⟨key ts false hb.1, by have := hb.2; omega⟩
     | none =>
       rw [ho] at hb
       obtain ⟨ts, g1, g2⟩ := hb
       exact ⟨ts, key ts true g1, by omega⟩
end Mine
end
section
namespace Mine
open PySem PySem.W
open PySem.W.X (KT)
section
variable (d : Code → Sem Fin) (p : Program) (w : World) (n₀ : Nat) (ann : Option Value)
noncomputable def sgT : Nat → SharedT → Thread → Option (Flow × SharedT × Code × Pos)
 | 0, _, _ => none
 | n + 1, s, t => match endAt 1 t with
   | some f => some (f, s, t.code, t.pos)
   | none => match stepOk n₀ ann t with
     | false => none
     | true => match stepT d p w s t with
       | some x => sgT n x.1 x.2
       | none => none
noncomputable def impT : Nat → SharedT → Thread → Option SharedT
 | 0, _, _ => none
 | n + 1, s, t => match t.atExitBegin with
   | some l => match l with
     | [] => some s
     | _ :: _ => none
   | none => match stepT d p w s t with
     | some x => impT n x.1 x.2
     | none => none
end
theorem sgT_spec {tb : String → Option Builtin} {p : Program} {w : World} {n₀ : Nat} {ann : Option Value} : ∀ {n : Nat} {s s' : SharedT} {t : Thread} {f : Flow} {c : Code} {q : Pos}, sgT (denote tb) p w n₀ ann n s t = some (f, s', c, q) → segRun tb p w n₀ ann 1 n s.abs t = some (f, s'.abs, c, q)
 | 0, _, _, _, _, _, _, h => by cases h
 | n + 1, s, s', t, f, c, q, h => by
   unfold sgT at h
   unfold segRun
   cases ht : endAt 1 t with
   | some g => rw [ht] at h; cases h; rfl
   | none =>
     rw [ht] at h
     cases hk : stepOk n₀ ann t with
     | false => rw [hk] at h; cases h
     | true =>
       rw [hk] at h
       cases hs : stepT (denote tb) p w s t with
       | none => rw [hs] at h; cases h
       | some x => rw [hs] at h; dsimp only; rw [stepT_spec hs]; exact sgT_spec h
theorem impT_spec {tb : String → Option Builtin} {p : Program} {w : World} : ∀ {n : Nat} {s s' : SharedT} {t : Thread}, impT (denote tb) p w n s t = some s' → importEnds tb p w n s.abs t = some s'.abs
 | 0, _, _, _, h => by cases h
 | n + 1, s, s', t, h => by
   unfold impT at h
   unfold importEnds
   cases ht : t.atExitBegin with
   | some l =>
     rw [ht] at h
     cases l with
     | nil => cases h; rfl
     | cons _ _ => cases h
   | none =>
     rw [ht] at h
     cases hs : stepT (denote tb) p w s t with
     | none => rw [hs] at h; cases h
     | some x => rw [hs] at h; dsimp only; rw [stepT_spec hs]; exact impT_spec h
noncomputable def putL : List Obj → Nat → BT → BT
 | [], _, t => t
 | o :: l, n, t => putL l (n + 1) (t.ins n o)
noncomputable def fullL : List Obj → Nat → BT → Bool
 | [], _, _ => true
 | o :: l, n, t => ((t.ins n o).get n).isSome && fullL l (n + 1) (t.ins n o)
theorem putL_abs : ∀ (l : List Obj) (n : Nat) (t : BT) (life : Life), fullL l n t = true → absHeap (putL l n t) (n + l.length) life = ⟨(absHeap t n life).objs ++ l.toArray, life⟩
 | [], n, t, life, _ => by simp [putL]; rfl
 | o :: l, n, t, life, h => by
   obtain ⟨h1, h2⟩ := Bool.and_eq_true_iff.mp h
   have e := putL_abs l (n + 1) (t.ins n o) life h2
   rw [absHeap_ins h1] at e
   show absHeap (putL l (n + 1) (t.ins n o)) (n + (l.length + 1)) life = _
   rw [show n + (l.length + 1) = n + 1 + l.length by omega, e]
   show Heap.mk ((absHeap t n life).objs.push o ++ l.toArray) life = _
   congr 1
   apply Array.ext'
   simp
noncomputable def ktA : Nat → Nat → KT → List Nat
 | _, _, .nil => []
 | s, b, .node v l r => (match v with | some _ => [b] | none => []) ++ (ktA (2 * s) (s + b) l ++ ktA (2 * s) (2 * s + b) r)
noncomputable def ktO : KT → List Obj
 | .nil => []
 | .node v l r => (match v with | some o => [o] | none => []) ++ (ktO l ++ ktO r)
theorem ktAO_len : ∀ (t : KT) (s b : Nat), (ktA s b t).length = (ktO t).length
 | .nil, _, _ => rfl
 | .node v l r, s, b => by
   unfold ktA ktO
   rw [List.length_append, List.length_append, List.length_append, List.length_append, ktAO_len l, ktAO_len r]
   cases v <;> rfl
theorem obs_get {g : Nat → Option Obj} : ∀ (t : KT) (s b : Nat), (ktA s b t).map g = (ktO t).map some → ∀ {j : Nat} {o : Obj}, t.get j = some o → g (s * j + b) = some o
 | .nil, _, _, _, _, _, e => by cases e
 | .node v l r, s, b, e, j, o, q => by
   unfold ktA ktO at e
   rw [List.map_append, List.map_append, List.map_append, List.map_append] at e
   obtain ⟨e1, e2⟩ := List.append_inj e (by cases v <;> rfl)
   obtain ⟨e3, e4⟩ := List.append_inj e2 (by rw [List.length_map, List.length_map, ktAO_len])
   rw [KT.get_node] at q
   by_cases h0 : j = 0
   · subst h0
     rw [if_pos rfl] at q
     subst q
     rw [Nat.mul_zero, Nat.zero_add]
     exact (List.cons.inj e1).1
   · rw [if_neg h0] at q
     by_cases p : j % 2 = 1
     · rw [if_pos p] at q
       rw [KT.arith1 p]
       exact obs_get l _ _ e3 q
     · rw [if_neg p] at q
       rw [KT.arith2 h0 p]
       exact obs_get r _ _ e4 q
noncomputable def mixL (K : KT) (u : Nat → Obj) (n : Nat) : List Obj := (List.range n).map fun a => (K.get a).getD (u a)
noncomputable def mixA (K : KT) (u : Nat → Obj) (n tk : Nat) (os : OsState) : Shared := ⟨⟨(mixL K u n).toArray, {}⟩, #[], {}, tk, os⟩
noncomputable def mixT (K : KT) (u : Nat → Obj) (n tk : Nat) (os : OsState) : SharedT := ⟨putL (mixL K u n) 0 .nil, n, {}, #[], {}, tk, os⟩
section
variable {K : KT} {u : Nat → Obj} {n tk : Nat} {os : OsState}
theorem mixT_abs (h : fullL (mixL K u n) 0 .nil = true) : (mixT K u n tk os).abs = mixA K u n tk os := by
 have e := putL_abs (mixL K u n) 0 .nil {} h
 rw [Nat.zero_add, show (mixL K u n).length = n by simp [mixL]] at e
 refine congrArg (fun h => Shared.mk h #[] {} tk os) (e.trans ?_)
 rw [show (absHeap .nil 0 {}).objs = #[] from rfl]
 congr 1
 apply Array.ext'
 simp
theorem mix_of {T : BT} (e : (ktA 1 0 K).map T.get = (ktO K).map some) : (⟨T, n, {}, #[], {}, tk, os⟩ : SharedT).abs = mixA K (fun a => (T.get a).getD default) n tk os := by
 refine congrArg (fun l : List Obj => Shared.mk ⟨l.toArray, {}⟩ #[] {} tk os) (List.map_congr_left fun a _ => ?_)
 cases h : K.get a with
 | none => rfl
 | some o =>
   have := obs_get K 1 0 e h
   rw [Nat.one_mul, Nat.add_zero] at this
   rw [this]; rfl
theorem mix_of_heap {s : Shared} (e : (ktA 1 0 K).map (fun a => s.heap.objs.toList[a]?) = (ktO K).map some) (hn : s.heap.objs.toList.length = n) (hl : s.heap.life = {}) (hg : s.gens = #[]) (hd : s.drawn = {}) (ht : s.toks = tk) :
   s = mixA K (fun a => (s.heap.objs.toList[a]?).getD default) n tk s.os := by
 obtain ⟨⟨⟨l⟩, life⟩, gens, drawn, toks, o⟩ := s
 dsimp only at *
 subst hl hg hd ht hn
 refine congrArg (fun l : List Obj => Shared.mk ⟨l.toArray, {}⟩ #[] {} toks o) (List.ext_getElem? fun a => ?_)
 unfold mixL
 rw [List.getElem?_map]
 by_cases ha : a < l.length
 · rw [List.getElem?_range ha]
   show l[a]? = some ((K.get a).getD (l[a]?.getD default))
   cases h : K.get a with
   | none => rw [List.getElem?_eq_getElem ha]; rfl
   | some x =>
     have := obs_get K 1 0 e h
     rw [Nat.one_mul, Nat.add_zero] at this
     rw [this]; rfl
 · rw [List.getElem?_eq_none (by omega), List.getElem?_eq_none (by simp; omega)]
   rfl
end
noncomputable def obsR (K : KT) (r : Flow × SharedT × Code × Pos) := (r.1, (ktA 1 0 K).map r.2.1.tree.get, (r.2.1.n, r.2.1.life, r.2.1.gens, r.2.1.drawn, r.2.1.toks, r.2.1.os), r.2.2.1, r.2.2.2)
noncomputable def seenR (K : KT) (n tk : Nat) (os : OsState) (c : Code) (q : Pos) : Flow × List (Option Obj) × (Nat × Life × Array GenState × Drawn × Nat × OsState) × Code × Pos := (.next, (ktO K).map some, (n, {}, #[], {}, tk, os), c, q)
theorem piece_of {tb : String → Option Builtin} {p : Program} {w : World} {n₀ m : Nat} {ann : Option Value} {K K' : KT} {u : Nat → Obj} {n n' tk tk' : Nat} {os : OsState} {th : Thread} {c : Code} {q : Pos} (hf : fullL (mixL K u n) 0 .nil = true)
   (h : (sgT (denote tb) p w n₀ ann m (mixT K u n tk os) th).map (obsR K') = some (seenR K' n' tk' os c q)) : ∃ u', segRun tb p w n₀ ann 1 m (mixA K u n tk os) th = some (.next, mixA K' u' n' tk' os, c, q) := by
 obtain ⟨⟨f, ⟨T, n1, life, gens, drawn, toks, os1⟩, c1, q1⟩, h1, h2⟩ := Option.map_eq_some_iff.mp h
 obtain ⟨e1, h2⟩ := Prod.mk.inj h2
 obtain ⟨e2, h2⟩ := Prod.mk.inj h2
 obtain ⟨h3, h2⟩ := Prod.mk.inj h2
 obtain ⟨e3, e4⟩ := Prod.mk.inj h2
 simp only [Prod.mk.injEq] at h3
 obtain ⟨a1, a2, a3, a4, a5, a6⟩ := h3
 dsimp only at e1 e2 e3 e4 a1 a2 a3 a4 a5 a6
 subst e1 e3 e4 a1 a2 a3 a4 a5 a6
 have r := sgT_spec h1
 rw [mixT_abs hf, mix_of e2] at r
 exact ⟨_, r⟩
end Mine
end
section
namespace Mine
open PySem PySem.W
open PySem.W.X (KT)
noncomputable abbrev prgH : Program := PySem.Challenge.pw_mq0384_01
noncomputable def lawN : Str := "law"
noncomputable def qH : Program := view prgH [33]
noncomputable def looseH : List Str := prgH.boundNames.filter fun n => n != lawN
noncomputable def tA : List Nat := [0,3,735,103,407,771,387,675,563,75,107,555,363,795,379,705,609,49,777,393,713,105,745,57,133,549,677,741,789,373,757,781,557,61,669,765,2,48,776,712,744,56,408,132,772,676,788,564,756,76,556,796,668,380,764,386,706,610,50,394,106,102,742,662,758,782,750,62,734]
noncomputable def preE (o : Obj) (k : Nat) : Obj := match o with
 | ⟨c, d, .dict es _, sl⟩ => ⟨c, d, .dict (es.toList.take k).toArray k, sl⟩
 | ⟨c, d, .fields vs, sl⟩ => ⟨c, d, .fields (vs.toList.take k).toArray, sl⟩
 | o => o
noncomputable def named (o : Obj) (v : Value) : Obj := match o with
 | ⟨c, d, .dict es n, sl⟩ => ⟨c, d, .dict (match es.toList with | e :: l => { e with val := v } :: l | [] => []).toArray n, sl⟩
 | o => o
noncomputable def ktBelow (m : Nat) : Nat → Nat → KT → KT
 | _, _, .nil => .nil
 | s, b, .node v l r => .node (match Nat.blt b m with | true => v | false => none) (ktBelow m (2 * s) (s + b) l) (ktBelow m (2 * s) (2 * s + b) r)
noncomputable def putK (t : KT) (l : List (Nat × Obj)) : KT := l.foldl (fun t x => KT.put 40 t x.1 x.2) t
noncomputable def h1 (P : Params) : Obj := ⟨.type "dict", none, .dict #[en P ⟨#[98,117,105,108,116,105,110,115]⟩ 162 (.ref 4), en P ⟨#[95,95,109,97,105,110,95,95]⟩ 163 (.ref 5), en P ⟨#[95,115,114,101]⟩ 244 (.ref 12), en P ⟨#[95,99,111,108,108,101,99,116,105,111,110,115]⟩ 292 (.ref 30)] 4, #[]⟩
noncomputable def h35 : Obj := ⟨.none, none, .fields #[.int (3) 0,.int (0) 0,.ref 43,.int (8) 0,.int (0) 0,.ref 56,.int (19) 0,.int (0) 0,.ref 68,.int (24) 0,.int (0) 0,.ref 75,.int (31) 0,.int (0) 0,.ref 82,.int (33) 0,.int (0) 0,.ref 95,.int (40) 0,.int (0) 0,.ref 117,.int (42) 0,.int (0) 0,.ref 129,.int (44) 0,.int (0) 0,.ref 141,.int (214) 0,.int (0) 0,.ref 371], #[]⟩
noncomputable def h36 : Obj := ⟨.type "code", none, .fields #[.str ⟨#[60,109,111,100,117,108,101,62]⟩ 319,.str ⟨#[60,109,111,100,117,108,101,62]⟩ 320,.str ⟨#[47,99,108,97,105,109,47,99,117,116,46,112,121]⟩ 321,.int (1) 0,.int (0) 0,.int (0) 0,.int (0) 0,.int (0) 0,.ref 34,.bool false, .int (318) 0,.ref 35,.none, .none, .none, .none, .int (322) 0,.int (1) 0,.str ⟨#[47,99,108,97,105,109,47,99,117,116,46,112,121]⟩ 323], #[]⟩
noncomputable def h133 : Obj := ⟨.type "type", none, .cls ⟨⟨#[84,101,120,116,73,79,66,97,115,101]⟩, [.ref 106], [.ref 133,.ref 106,.type "object"], 132,⟨#[84,101,120,116,73,79,66,97,115,101]⟩, true, [], [], false, none, false⟩, #[some (.ref 124), none, some (.str ⟨#[84,101,120,116,73,79,66,97,115,101]⟩ 507), some (.str ⟨#[84,101,120,116,73,79,66,97,115,101]⟩ 515), some (.none), some (.bool true)]⟩
noncomputable def k0 (P : Params) : KT := putK (ktBelow 34 1 0 (kt P)) [(1, h1 P), (4, boot_o_4 P), (5, boot_o_5 P), (6, boot_o_6 P), (2, preE (o2 P) 13), (3, preE (named (o3 P) (.str ⟨#[95,95,109,97,105,110,95,95]⟩ 164)) 11), (11,⟨.type "dict", none, .dict #[en P ⟨#[95,95,110,97,109,101,95,95]⟩ 247 (.str ⟨#[95,115,114,101]⟩ 246), en P ⟨#[95,95,100,111,99,95,95]⟩ 248 (.none), en P ⟨#[95,95,112,97,99,107,97,103,101,95,95]⟩ 250 (.str ⟨#[]⟩ 249), en P ⟨#[95,95,108,111,97,100,101,114,95,95]⟩ 251 (.builtin "off-the-table:_sre.__loader__:shared#opaque"), en P ⟨#[95,95,115,112,101,99,95,95]⟩ 252 (.builtin "off-the-table:_sre.__spec__:shared#opaque"), en P ⟨#[99,111,109,112,105,108,101]⟩ 253 (.builtin "_sre.compile"), en P ⟨#[116,101,109,112,108,97,116,101]⟩ 254 (.builtin "off-the-table:_sre.template:shared#opaque"), en P ⟨#[103,101,116,99,111,100,101,115,105,122,101]⟩ 255 (.builtin "off-the-table:_sre.getcodesize:shared#opaque"), en P ⟨#[97,115,99,105,105,95,105,115,99,97,115,101,100]⟩ 256 (.builtin "off-the-table:_sre.ascii_iscased:shared#opaque"), en P ⟨#[117,110,105,99,111,100,101,95,105,115,99,97,115,101,100]⟩ 257 (.builtin "off-the-table:_sre.unicode_iscased:shared#opaque"), en P ⟨#[97,115,99,105,105,95,116,111,108,111,119,101,114]⟩ 258 (.builtin "off-the-table:_sre.ascii_tolower:shared#opaque"), en P ⟨#[117,110,105,99,111,100,101,95,116,111,108,111,119,101,114]⟩ 259 (.builtin "off-the-table:_sre.unicode_tolower:shared#opaque"), en P ⟨#[77,65,71,73,67]⟩ 261 (.int (20230612) 260), en P ⟨#[67,79,68,69,83,73,90,69]⟩ 263 (.int (4) 262), en P ⟨#[77,65,88,82,69,80,69,65,84]⟩ 265 (.int (4294967295) 264), en P ⟨#[77,65,88,71,82,79,85,80,83]⟩ 267 (.int (1073741823) 266), en P ⟨#[99,111,112,121,114,105,103,104,116]⟩ 269 (.str ⟨#[32,83,82,69,32,50,46,50,46,50,32,67,111,112,121,114,105,103,104,116,32,40,99,41,32,49,57,57,55,45,50,48,48,50,32,98,121,32,83,101,99,114,101,116,32,76,97,98,115,32,65,66,32]⟩ 268)] 17, #[]⟩), (12,⟨.type "module", some 11,.plain, #[]⟩)]
noncomputable def k1 (P : Params) : KT := putK (k0 P) [(35, preE h35 0), (36, h36)]
noncomputable def kA (P : Params) : KT := putK (ktBelow 136 1 0 (kt P)) [(1, h1 P), (4, boot_o_4 P), (5, boot_o_5 P), (6, boot_o_6 P), (3, preE (named (o3 P) (.str ⟨#[105,111]⟩ 417)) 21), (35, preE h35 24), (36, h36), (120,⟨.type "dict", none, .dict #[en P ⟨#[95,95,109,111,100,117,108,101,95,95]⟩ 496 (.str ⟨#[105,111]⟩ 501), en P ⟨#[95,95,102,105,114,115,116,108,105,110,101,110,111,95,95]⟩ 500 (.int (40) 499), en P ⟨#[95,95,115,116,97,116,105,99,95,97,116,116,114,105,98,117,116,101,115,95,95]⟩ 503 (.ref 119), en P ⟨#[95,95,100,111,99,95,95]⟩ 504 (.none)] 2, #[]⟩), (121,⟨.type "type", none, .cls ⟨⟨#[66,117,102,102,101,114,101,100,73,79,66,97,115,101]⟩, [.ref 106], [.ref 121,.ref 106,.type "object"], 120,⟨#[66,117,102,102,101,114,101,100,73,79,66,97,115,101]⟩, true, [], [], false, none, false⟩, #[some (.ref 112), none, some (.str ⟨#[66,117,102,102,101,114,101,100,73,79,66,97,115,101]⟩ 489), some (.str ⟨#[66,117,102,102,101,114,101,100,73,79,66,97,115,101]⟩ 497), some (.none), some (.bool true)]⟩), (133, h133)]
noncomputable def kB (P : Params) : KT := putK (ktBelow 366 1 0 (kt P)) [(1, h1 P), (4, boot_o_4 P), (5, boot_o_5 P), (6, boot_o_6 P), (3, preE (named (o3 P) (.str ⟨#[105,111]⟩ 417)) 22), (35, preE h35 27), (36, h36), (133, h133)]
noncomputable def kC (P : Params) : KT := putK (ktBelow 613 1 0 (kt P)) [(1, h1 P), (4, boot_o_4 P), (5, boot_o_5 P), (6, boot_o_6 P), (3, preE (named (o3 P) (.str ⟨#[105,111]⟩ 417)) 23), (35, preE h35 30), (36, h36)]
noncomputable def kD (P : Params) : KT := putK (kt P) [(1, h1 P), (4, boot_o_4 P), (5, boot_o_5 P), (6, boot_o_6 P), (791,⟨.none, none, .fields #[], #[]⟩)]
noncomputable def bodyH : List Stmt := behindTheImports prgH
noncomputable def envH : Env := { scope := prgH.main.scope, locals := mainNs, globals := mainNs, cells := [], code := .ref 36, frame := some 37 }
noncomputable abbrev codeH : Code := .body bodyH envH
noncomputable abbrev posH : Pos := ⟨0,0,0,0⟩
noncomputable abbrev annH : Option Value := some (.ref 6)
noncomputable abbrev tbH : List Stmt → Pos → Thread := fun l q => piecesOf l envH codeH q [topFrame posH]
theorem tree_den : denote treeTable = den := by rw [← den_eq, table_eq_tree]
noncomputable def s00 : SharedT := ⟨.nil, 0, {}, #[], {}, 1, (start (opening prgH)).1.os⟩
noncomputable def obsH (K : KT) (s : Shared) := ((ktA 1 0 K).map (fun a => s.heap.objs.toList[a]?), s.heap.objs.toList.length, s.heap.life, s.gens, s.drawn, s.toks)
noncomputable def seenH (K : KT) (n tk : Nat) : List (Option Obj) × Nat × Life × Array GenState × Drawn × Nat := ((ktO K).map some, n, {}, #[], {}, tk)
end Mine
end
section
namespace Mine
open PySem PySem.W
open PySem.W.X (KT)
theorem run_open (w : World) : ((impT den (opening prgH) w 5200 s00 (start (opening prgH)).2).bind fun s => fenceModules? prgH s.abs).map (obsH (k0 w.params)) = some (seenH (k0 w.params) 34 318) := by kernel_rfl
theorem run_pre (w : World) (u : Nat → Obj) (os : OsState) : (topGo treeTable prgH w 34 annH 12 (mixA (k0 w.params) u 34 318 os) (topStub prgH)).map (fun r => (obsH (k1 w.params) r.1, r.1.os, r.2)) = some (seenH (k1 w.params) 38 324, os, ⟨denote treeTable codeH, codeH, posH, [topFrame posH]⟩) := by kernel_rfl
theorem run_block (w : World) (u : Nat → Obj) (os : OsState) : segRun treeTable prgH w 34 annH 1 1 (mixA (k1 w.params) u 38 324 os) (blockOf bodyH envH codeH posH [topFrame posH]) = some (.next, mixA (k1 w.params) u 38 324 os, codeH, posH) := by kernel_rfl
theorem run_fin (w : World) (s : Shared) (q : Pos) : topRun treeTable prgH w 34 annH 49 s ⟨doneF .next, codeH, q, [topFrame posH]⟩ = some s := by cases s; kernel_rfl
theorem full1 (w : World) (u : Nat → Obj) : fullL (mixL (k1 w.params) u 38) 0 .nil = true := by kernel_rfl
theorem fullA (w : World) (u : Nat → Obj) : fullL (mixL (kA w.params) u 136) 0 .nil = true := by kernel_rfl
theorem fullB (w : World) (u : Nat → Obj) : fullL (mixL (kB w.params) u 366) 0 .nil = true := by kernel_rfl
theorem fullC (w : World) (u : Nat → Obj) : fullL (mixL (kC w.params) u 613) 0 .nil = true := by kernel_rfl
noncomputable abbrev qA : Pos := ⟨42,0,43,21⟩
noncomputable abbrev qB : Pos := ⟨44,0,213,17⟩
noncomputable abbrev qC : Pos := ⟨214,0,418,17⟩
noncomputable abbrev qD : Pos := ⟨793,0,802,15⟩
theorem run_A (w : World) (u : Nat → Obj) (os : OsState) : (sgT den prgH w 34 annH 1194 (mixT (k1 w.params) u 38 324 os) (tbH (bodyH.take 12) posH)).map (obsR (kA w.params)) = some (seenR (kA w.params) 136 525 os codeH qA) := by kernel_rfl
theorem run_B (w : World) (u : Nat → Obj) (os : OsState) : (sgT den prgH w 34 annH 1278 (mixT (kA w.params) u 136 525 os) (tbH ((bodyH.drop 12).take 1) qA)).map (obsR (kB w.params)) = some (seenR (kB w.params) 366 787 os codeH qB) := by kernel_rfl
theorem run_C (w : World) (u : Nat → Obj) (os : OsState) : (sgT den prgH w 34 annH 1578 (mixT (kB w.params) u 366 787 os) (tbH ((bodyH.drop 13).take 1) qB)).map (obsR (kC w.params)) = some (seenR (kC w.params) 613 1074 os codeH qC) := by kernel_rfl
theorem run_D (w : World) (u : Nat → Obj) (os : OsState) : (sgT den prgH w 34 annH 1088 (mixT (kC w.params) u 613 1074 os) (tbH (bodyH.drop 14) qC)).map (obsR (kD w.params)) = some (seenR (kD w.params) 797 1339 os codeH qD) := by kernel_rfl
theorem body_cut : bodyH = bodyH.take 12 ++ ((bodyH.drop 12).take 1 ++ ((bodyH.drop 13).take 1 ++ (bodyH.drop 14 ++ []))) := by kernel_rfl
noncomputable def looksH (s0 s : Shared) := (staticsOk (importedModules prgH.main.body) s0.heap s.heap && namesBound prgH s.heap && gensDone s && laidKept s0.heap s.heap, openSeen qH looseH (importedModules prgH.main.body) (fun _ => true) true s)
noncomputable def yH (s : Shared) := (s.heap.objs.size, s.heap.nsMap mainGlobals lawN, tA.map s.heap.get?)
noncomputable def yA (w : World) : Nat × Option Value × List (Option Obj) := (797, some (.ref 796), (ktO (kt w.params)).map some)
theorem head_size (w : World) (u : Nat → Obj) (os : OsState) : ((mixA (k0 w.params) u 34 318 os).heap.isNs mainGlobals && (mixA (k0 w.params) u 34 318 os).gens.size == 0, (mixA (k0 w.params) u 34 318 os).heap.objs.size, (mixA (k0 w.params) u 34 318 os).heap.nsMap mainGlobals "__annotations__") = (true, 34, annH) := by kernel_rfl
theorem head_y (w : World) (u : Nat → Obj) (os : OsState) : yH (mixA (kD w.params) u 797 1339 os) = yA w := by kernel_rfl
theorem head_looks (w : World) (u v : Nat → Obj) (os : OsState) : looksH (mixA (k0 w.params) u 34 318 os) (mixA (kD w.params) v 797 1339 os) = (true, openGood qH looseH) := by kernel_rfl
end Mine
end
section
namespace Mine
open PySem PySem.W
open PySem.W.X (KT)
theorem seenH_mix {s : Shared} {K : KT} {n tk : Nat} (h : obsH K s = seenH K n tk) : ∃ u, s = mixA K u n tk s.os := by
 simp only [obsH, seenH, Prod.mk.injEq] at h
 obtain ⟨e1, e2, e3, e4, e5, e6⟩ := h
 exact ⟨_, mix_of_heap e1 e2 e3 e4 e5 e6⟩
theorem head_top (w : World) (u : Nat → Obj) (os : OsState) : ∃ v, topRun treeTable prgH w 34 annH 5200 (mixA (k0 w.params) u 34 318 os) (topStub prgH) = some (mixA (kD w.params) v 797 1339 os) := by
 obtain ⟨⟨s1, t1⟩, e1, e2⟩ := Option.map_eq_some_iff.mp (run_pre w u os)
 simp only [Prod.mk.injEq] at e2
 obtain ⟨o1, o2, o3⟩ := e2
 obtain ⟨u1, q1⟩ := seenH_mix o1
 rw [o2] at q1
 subst q1 o3
 obtain ⟨uA, hA⟩ := piece_of (full1 w u1) (tree_den ▸ run_A w u1 os)
 obtain ⟨uB, hB⟩ := piece_of (fullA w uA) (tree_den ▸ run_B w uA os)
 obtain ⟨uC, hC⟩ := piece_of (fullB w uB) (tree_den ▸ run_C w uB os)
 obtain ⟨uD, hD⟩ := piece_of (fullC w uC) (tree_den ▸ run_D w uC os)
 refine ⟨uD, ?_⟩
 have hf : topRun treeTable prgH w 34 annH 49 (mixA (kD w.params) uD 797 1339 os) (restOf [] envH codeH qD [topFrame posH]) = some (mixA (kD w.params) uD 797 1339 os) := piece_nil (run_fin w _ qD)
 have r := piece_app hA (piece_app hB (piece_app hC (piece_app hD hf)))
 rw [← body_cut] at r
 exact go_top e1 (piece_block (run_block w u1 os) r)
theorem left_of {w : World} {y s0 s1 : Shared} (o1 : importEnds treeTable (opening prgH) w 5200 (start (opening prgH)).1 (start (opening prgH)).2 = some y) (g2 : fenceModules? prgH y = some s0)
   (c : (s0.heap.isNs mainGlobals && s0.gens.size == 0, s0.heap.objs.size, s0.heap.nsMap mainGlobals "__annotations__") = (true, 34, annH)) (o3 : topRun treeTable prgH w 34 annH 5200 s0 (topStub prgH) = some s1)
   (l : looksH s0 s1 = (true, openGood qH looseH)) (z : yH s1 = yA w) : (openEnds treeTable prgH w 5200).map (fun s => (openSeen qH looseH (importedModules prgH.main.body) (fun _ => true) true s, yH s)) = some (openGood qH looseH, yA w) := by
 obtain ⟨c1, c2⟩ := Prod.mk.inj c
 obtain ⟨c2, c3⟩ := Prod.mk.inj c2
 obtain ⟨l1, l2⟩ := Prod.mk.inj l
 have o2 : fencedOpening treeTable prgH w 5200 = some s0 := by
   unfold fencedOpening
   rw [o1]
   exact g2
 have o4 : topFrom treeTable prgH w 5200 s0 = some s1 := by
   unfold topFrom
   rw [c1, c2, c3]
   dsimp only
   rw [o3]
   show (match staticsOk (importedModules prgH.main.body) s0.heap s1.heap && namesBound prgH s1.heap && gensDone s1 && laidKept s0.heap s1.heap with | true => _ | false => _) = _
   rw [l1]
 show ((fencedOpening treeTable prgH w 5200).bind _).map _ = _
 rw [o2]
 show (topFrom treeTable prgH w 5200 s0).map _ = _
 rw [o4]
 show some (_, _) = _
 rw [l2, z]
theorem head_left : LeftO prgH qH looseH (fun _ => true) yH yA 5200 := fun w => by
 obtain ⟨s, e1, e2⟩ := Option.map_eq_some_iff.mp (run_open w)
 obtain ⟨y, g1, g2⟩ := Option.bind_eq_some_iff.mp e1
 obtain ⟨u, q⟩ := seenH_mix e2
 have o1 : importEnds treeTable (opening prgH) w 5200 (start (opening prgH)).1 (start (opening prgH)).2 = some y.abs := impT_spec (s := s00) (tree_den ▸ g1)
 obtain ⟨v, o3⟩ := head_top w u s.os
 have c := head_size w u s.os
 have l := head_looks w u v s.os
 have z := head_y w v s.os
 rw [← q] at c l o3
 exact left_of o1 g2 c o3 l z
theorem tA_is (P : Params) : ktA 1 0 (kt P) = tA := rfl
theorem kt_of {w : World} {s : Shared} (e : yH s = yA w) : 797 ≤ s.heap.objs.size ∧ s.heap.nsMap mainGlobals lawN = some (.ref 796) ∧ ∀ a o, (kt w.params).get a = some o → s.heap.get? a = some o := by
 obtain ⟨e1, e2⟩ := Prod.mk.inj e
 obtain ⟨e2, e3⟩ := Prod.mk.inj e2
 refine ⟨Nat.le_of_eq e1.symm, e2, fun a o q => ?_⟩
 have := obs_get (kt w.params) 1 0 ((congrArg (List.map s.heap.get?) (tA_is w.params)).trans e3) q
 rwa [Nat.one_mul, Nat.add_zero] at this
end Mine
end
section
namespace Mine
open PySem PySem.W PySem.Calls PyProof.Rows
open PySem.W.X (KT)
theorem W3_self (w : World) : W3 w (w.params.followText "special-get-raises") (w.params.followText "fstring-hands-on-the-str") (w.params.followText "comprehension-iter-twice") = w := by
 unfold W3
 rw [World.withFollow_self, World.withFollow_self, World.withFollow_self]
noncomputable abbrev clm : ClaimW := PySem.Challenge.rw_mq0384_01.row.toRowW.claim
noncomputable abbrev Γ0 : Ctx := ⟨.builtin "claim.caller" {}, none, none, [], none⟩
theorem lay_ints {R : WRecords} {cl : Str → Option Addr} {P : Params} {ord : List DictEntry → List DictEntry} : ∀ (xs : List WData) (s : Shared), (∀ x ∈ xs, ∃ i, x = .int i) →
   ∃ vs t, layAllW R cl P ord xs s = some (vs, { s with toks := t }) ∧ IsInts vs ∧ vs.length = xs.length
 | [], s, _ => ⟨[], s.toks, rfl, (fun v h => by cases h), rfl⟩
 | x :: xs, s, h => by
   obtain ⟨i, e⟩ := h x (List.mem_cons_self ..)
   subst e
   obtain ⟨vs, t, e, hi, hl⟩ := lay_ints (R := R) (cl := cl) (P := P) (ord := ord) xs { s with toks := s.toks + 1 } fun y hy => h y (List.mem_cons_of_mem _ hy)
   refine ⟨.int i s.toks :: vs, t, ?_, fun v hv => ?_, by simp [hl]⟩
   · simp only [layAllW, layW]
     rw [e]
   · rcases List.mem_cons.mp hv with q | q
     · exact ⟨_, _, q⟩
     · exact hi v q
theorem has_int {d : WData} (h : WShape.has [] d .int = true) : ∃ i, d = .int i := by
 cases d <;> first | exact ⟨_, rfl⟩ | (exfalso; revert h; simp [WShape.has, WShape.arms])
theorem items_int : ∀ {xs : List WData}, WShape.hasItems [] xs .int = true → ∀ x ∈ xs, ∃ i, x = .int i
 | [], _, _, hx => nomatch hx
 | y :: ys, h, x, hx => by
   simp only [WShape.hasItems, Bool.and_eq_true] at h
   rcases List.mem_cons.mp hx with e | e
   · exact e ▸ has_int h.1
   · exact items_int h.2 x e
theorem args_of {args : List WData} (h : clm.pre args = true) : ∃ xs, args = [.list xs] ∧ (∀ x ∈ xs, ∃ i, x = .int i) ∧ xs.length ≤ 63 := by
 obtain ⟨h1, h2⟩ := pre_splitW (r := PySem.Challenge.rw_mq0384_01.row.toRowW) h
 obtain ⟨d, r, rfl, hd, hr⟩ := hasAllW_cons h1
 cases r with
 | cons _ _ => simp [WShape.hasAll] at hr
 | nil =>
   have hd' : WShape.has [] d (.list .int) = true := hd
   cases d with
   | list xs =>
     refine ⟨xs, rfl, ?_, ?_⟩
     · simp [WShape.has, WShape.arms] at hd'
       exact items_int hd'
     · have h3 : (WTm.and (.not (.lt (.lit (.int 63)) (.len (.arg 0)))) (.lit (.bool true))).holds [] { args := [.list xs] } = true := h2
       simp [WTm.holds, WTm.value] at h3
       have e : less? (.int 63) (.int xs.length) = some (decide ((63 : Int) < xs.length)) := rfl
       rw [e] at h3
       by_cases q : (63 : Int) < xs.length
       · simp [q] at h3
       · omega
   | _ => exfalso; revert hd'; simp [WShape.has, WShape.arms]
theorem post_ok (args ds : List WData) : clm.post args (.bool true) ds = true := by
 show (WShape.has [] (.bool true) .bool && (WTm.eq .res (.lit (.bool true))).holds [] { args := args, res := some (.bool true), after := ds }) = true
 have e : same (.bool true) (.bool true) = true := by simp [same]
 simp [WShape.has, WShape.arms, WTm.holds, WTm.value, e]
theorem stub_wp {w : World} {s : Shared} {sc : Nat} {mg : Str → Option Value} {R : Result → Shared → Prop} (hN : s.heap.Ns mainGlobals mg) (hf : mg lawN = some (.ref 796))
   (h : ∀ p, wpCode (model prg w) (gLW sc p) (fun r s' => match r with | .ok (.ret v) => R (.ok (.ret v)) s' | .ok _ => False | .error e => R (.error e) s') p s) :
   Sem.wp (model prg w) Γ0 (callStub lawN [.ref sc]).cur (Sem.finPost (model prg w) Γ0 R) (fun e _ s' => R (.error e) s') default s := by
 show Sem.wp _ _ (nsGet mainNs lawN >>= _) _ _ _ _
 rw [Sem.wp_bind']
 refine Sem.wp_mono _ _ _ (fun x p' s' (h' : x = some (.ref 796) ∧ s' = s) => ?_) (fun e p' s' (h' : False) => h'.elim) _ _ ((wpAny_nsGet (A := callerA) (Q := fun x s' => x = some (.ref 796) ∧ s' = s) (E := fun _ _ => False) hN ⟨hf, rfl⟩) Γ0 default caller_in)
 obtain ⟨rfl, rfl⟩ := h'
 show Sem.wp _ _ (call (.ref 796) [.ref sc] >>= _) _ _ _ _
 rw [Sem.wp_bind', Sem.wp_cmd_call]
 refine wpCode_mono (M := model prg w) (fun r s' hr => ?_) (h p')
 cases r with
 | error e => exact hr
 | ok f => cases f <;> first | exact hr.elim | exact hr
theorem call_from {w : World} {a b c : Bool} {free : Addr → Prop} {kept : Heap → Prop} {s : Shared} {mg : Str → Option Value} (hz : s.asleep) (hgens : s.gens = #[]) (hsz : 797 ≤ s.heap.objs.size) (hK : ∀ a' o, (kt (W3 w a b c).params).get a' = some o → s.heap.get? a' = some o)
   (hN : s.heap.Ns mainGlobals mg) (hf : mg lawN = some (.ref 796)) (hk : ∀ h, kept h) : clm.CallFrom (callStub lawN) (W3 w a b c) free (false = false) kept s := by
 intro args hpre hlay ord hord
 obtain ⟨xs, rfl, hxs, hlen⟩ := args_of hpre
 obtain ⟨vs, t, e1, hi, hl⟩ := lay_ints (R := clm.records) (cl := classAt s.heap) (P := (W3 w a b c).params) (ord := ord) xs s hxs
 have e2 : layAllW clm.records (classAt s.heap) (W3 w a b c).params ord [.list xs] s = some ([.ref s.heap.objs.size], { s with heap := s.heap.push (listO vs 0), toks := t }) := by
   simp only [layAllW, layW]
   rw [e1]
   rfl
 have H0 : HpW (W3 w a b c) s.heap [] := ⟨fun a o _ e => hK a o e, fun x hx => (nomatch hx), List.nodup_nil, fun x hx => (nomatch hx), hsz⟩
 have H1 : HpW (W3 w a b c) (s.heap.push (listO vs 0)) [(s.heap.objs.size, listO vs 0)] := Hp.push (L := []) H0 rfl
 have hal := layAllW_rest _ _ _ e2
 have keeps := layAllW_keeps _ _ _ e2
 have N1 : (s.heap.push (listO vs 0)).Ns mainGlobals mg := hN.push _
 obtain ⟨n, r, s', s'', hs, hn, hfo, hR⟩ := wp_halts_full (M := model prg (W3 w a b c)) (c := .builtin "claim.caller" {}) (p := default)
   (R := fun r s' => r = .ok (.ret (.bool true)) ∧ Beh [] { s with heap := s.heap.push (listO vs 0), toks := t } s') (Shared.asleep_of_life hal.2.2.2 hz)
   (stub_wp (s := { s with heap := s.heap.push (listO vs 0), toks := t }) (sc := s.heap.objs.size) (mg := mg) N1 hf fun p => law_spec plain (cc := 0) (vs := vs) H1 hi (by omega) fun s' _ bb => ⟨⟨rfl, bb⟩, by
     have : s'.gens = #[] := bb.gens.trans hgens
     rw [this]; exact leftWithCleanup_false_of_bare AllBare.empty⟩)
 obtain ⟨rfl, bb⟩ := hR
 obtain ⟨eh, _, _, eo, _⟩ := Shared.forget_eq hfo
 have kp : ∀ b o, (s.heap.push (listO vs 0)).get? b = some o → s''.heap.get? b = some o := fun b o g => by rw [eh]; exact bb.keep b o g (by simp)
 obtain ⟨as, hrd, hin, hold⟩ := reads_layAllW hord _ _ _ e2 hlay s''.heap kp
 refine ⟨_, _, e2, n, _, s'', hs, .inl ⟨.bool true, rfl, fun _ => rfl, ⟨.bool true, _, [], as, .bool true, hrd, post_ok _ _, fun _ => ⟨List.nodup_nil, fun a ha => (nomatch ha), fun a ha => (nomatch ha)⟩, fun _ _ => ident_freeW rfl rfl rfl _ _⟩, fun i hi => (nomatch hi), fun b o g _ _ _ => .inl (kp b o g), fun i hi => (nomatch hi)⟩,
   fun _ i x hx => by rw [hgens] at hx; simp at hx, hk _, ?_, ?_⟩
 · exact congrArg Life.seen ((runN_life _ _ _ hn).trans hal.2.2.2)
 · exact Shared.rest_eq (eo.trans (bb.os.trans hal.2.2.1))
theorem chains : chainsOk qH = true := by decide +kernel
noncomputable def noRec : DefRec := ⟨lawN, ⟨[], [], none, [], [], none, []⟩, [], ⟨.function, [], false, false, []⟩, default⟩
noncomputable def dLaw : DefRec := (recsOf qH).headD noRec
theorem law_def : defOf qH lawN = some (dLaw, []) := by kernel_rfl
theorem law_the : prgH.theDef lawN = some (dLaw.params, dLaw.body, dLaw.scope) := by kernel_rfl
theorem law_kw : kwWritten? dLaw.params.kwonlyargs dLaw.params.kw_defaults = some [] := by kernel_rfl
theorem law_bare : prgH.bare := ⟨rfl, rfl, rfl, rfl, rfl, by decide +kernel⟩
theorem law_opens : opensWell prgH = true := by decide +kernel
theorem law_promised : PySem.Challenge.rw_mq0384_01.row.toRowW.promised := ⟨[.list []], by decide +kernel, by decide +kernel⟩
theorem law_holds (said : PySem.Challenge.rw_mq0384_01.row.wellSaid = true) : PySem.Challenge.rw_mq0384_01.row.Holds := by
 refine ⟨said, law_promised, ⟨law_bare, law_opens, rfl⟩, law_promised.witness, fun w => ⟨(head_left.behind (XP := fun _ _ => True) (fun _ _ => trivial) chains w).1, fun s' hs' => ?_⟩⟩
 obtain ⟨s₀, hf, hg0, s, hT, hz, hgens, hg, G, y⟩ := (head_left.behind (XP := fun _ _ => True) (fun _ _ => trivial) chains w).2 s' hs'
 obtain ⟨k1, k2, k3⟩ := kt_of y
 refine ⟨s₀, hf, hg0, s, hT, ?_, fun x hx => (nomatch hx), fun x hx => (nomatch hx), ?_⟩
 · intro n hn
   have e : n = lawN := by simpa using (show n ∈ [lawN] from hn)
   subst e
   exact pinned_of_view hg G law_def law_the law_kw
 · have hgens : s.gens = #[] := Array.eq_empty_of_size_eq_zero (beq_iff_eq.mp hgens)
   rw [← W3_self w] at k3
   have c := call_from (w := w) (a := w.params.followText "special-get-raises") (b := w.params.followText "fstring-hands-on-the-str") (c := w.params.followText "comprehension-iter-twice")
     (free := fun b => false = true ∧ madeByTheTop s₀ s b) (kept := fun h' => false = true → namesKept prgH PySem.Challenge.rw_mq0384_01.row.keeps s.heap h' ∧ ∀ x ∈ clm.records, ∀ a, classAt s.heap x.1 = some a → recordClass h' a x.1 (x.2.map (·.1)) = true)
     hz hgens k1 k3 G.T.g k2 (fun _ q => (nomatch q))
   rw [W3_self] at c
   exact c
theorem bare_nil : (["vars", "dir", "locals"] : List Str).filter (readsOut PySem.Challenge.rw_mq0384_01.row.prog PySem.Challenge.rw_mq0384_01.row.prog.main.body) = [] := by decide +kernel
theorem law_well : PySem.Challenge.rw_mq0384_01.wellSaid = true := by
 unfold OpenLaw.wellSaid
 with_reducible repeat' apply look_both
 all_goals (try (unfold OpenRow.wellSaid OpenRow.partSaid looksOpen; with_reducible repeat' apply look_both))
 all_goals first
   | (rw [bare_nil]; decide +kernel)
   | decide +kernel
end Mine
theorem PySem.Challenge.cw_mq0384_01_holds : PySem.Challenge.rw_mq0384_01.Holds := by
 exact PySem.W.holds_law Mine.law_well Mine.law_holds
end
