import PyProof.Rows.All
import Wide.All
import OpenK.AllK
import Wide.FinOn
import Lean
import PySem.Challenge.RW_ij0010_02
open PySem PySem.W PyProof.Rows PySem.Calls
set_option Elab.async false
set_option maxRecDepth 100000
set_option maxHeartbeats 80000000
namespace Mine
section
open PySem.W.X
/-- what stands at the start of a run: the world, what may change of the old heap, the old heap -/
structure Cx where
  prog : Program
  w : World
  T : List Nat
  h₀ : Heap
  g : Array GenState
  d : Drawn
  os : OsState
  m : Nat
/-- a cell's address: the old ones by themselves, the new ones by their turn -/
def ad (X : Cx) (c : Nat) : Addr := X.m + c
abbrev Hist := List (Nat × Obj)
/-- the newest state of a cell -/
def fd : Hist → Nat → Option Obj
  | [], _ => none
  | p :: r, c => match Nat.beq p.1 c with
    | true => some p.2
    | false => fd r c
structure Own3 (X : Cx) (tb own : Hist) (c : Nat) (h : Heap) : Prop where
  keep : ∀ b o, X.h₀.get? b = some o → b ∉ X.T → h.get? b = some o
  tab : ∀ a o, fd tb a = some o → h.get? a = some o
  tT : ∀ a o, fd tb a = some o → a ∈ X.T
  cell : ∀ k o, fd own k = some o → h.get? (ad X k) = some o
  lt : ∀ k o, fd own k = some o → 97 ≤ k ∧ k < c
  old : ∀ b ∈ X.T, b < X.h₀.objs.size
  sz0 : X.h₀.objs.size = ad X 97
  sz : h.objs.size = ad X c
theorem fd_cons (k : Nat) (o : Obj) (r : Hist) (j : Nat) : fd ((k, o) :: r) j = if k = j then some o else fd r j := by
  show (match Nat.beq k j with | true => some o | false => fd r j) = _
  by_cases h : k = j
  · subst h; simp
  · rw [show Nat.beq k j = false from by cases q : Nat.beq k j with | false => rfl | true => exact absurd (Nat.eq_of_beq_eq_true q) h, if_neg h]
structure AK (A : Around) (B U : Nat) : Prop where
  hd : A.handled = none
  dp : A.depth ≤ B
  un : A.units ≤ U
def WO {α : Type} (X : Cx) (tb own : Hist) (c t : Nat) (A : Around) (e : Sem α) (Q : α → Shared → Prop) (E : Value → Shared → Prop) : Prop :=
  ∀ h, Own3 X tb own c h → wpAny (model X.prog X.w) A e Q E ⟨h, X.g, X.d, t, X.os⟩
def CO (X : Cx) (tb own : Hist) (c t : Nat) (A : Around) (cd : Code) (R : Result → Shared → Prop) : Prop :=
  ∀ h, Own3 X tb own c h → codeAny (model X.prog X.w) A cd R ⟨h, X.g, X.d, t, X.os⟩
noncomputable abbrev DX : Code → Sem PySem.Fin := ZFast.zw11892475500146522536 ZFast.tableZ
theorem DX_eq : denote table = DX := by
  show _ = ZFast.zw11892475500146522536 ZFast.tableZ
  rw [ZFast.ze11892475500146522536, ZFast.tableZ_eq]
section
variable {α β : Type} {X : Cx} {tb own : Hist} {c t : Nat} {A : Around} {Q : α → Shared → Prop} {E : Value → Shared → Prop}
theorem AK.under {B U : Nat} {cd : Code} (a : AK A B U) (hw : Nat.ble cd.weight 3 = true) (hv : Nat.ble cd.cUnits 10 = true) : AK (A.under cd) (B + 3) (U + 10) :=
  ⟨a.hd, Nat.add_le_add a.dp (Nat.le_of_ble_eq_true hw), Nat.add_le_add a.un (Nat.le_of_ble_eq_true hv)⟩
theorem e_skim (n : Nat) {e : Sem α} (x : WO X tb own c t A (skim ⟨X.prog, X.w.params⟩ n e) Q E) : WO X tb own c t A e Q E := fun h D => x_skim n (x h D)
theorem e_fresh {k : Tok → Sem α} (x : WO X tb own c t.succ A (k t) Q E) : WO X tb own c t A (.fresh k) Q E := fun h D => x_fresh (x h D)
theorem e_handled {k : Option Value → Sem α} {B U : Nat} (a : AK A B U) (x : WO X tb own c t A (k none) Q E) : WO X tb own c t A (.handled false k) Q E := fun h D => x_handled (by rw [a.hd]; exact x h D)
theorem e_stack {k : List (Code × Pos) → Sem α} {B U : Nat} (a : AK A B U) (hd : Nat.ble (B + 1) recursionLimit = true) (hu : Nat.ble (U + 1) cLine = true)
    (x : ∀ st, (∀ own, nearF st own recursionLimit = false) → (∀ own, overF st own recursionLimit = false) → (∀ own, warmF st own recursionLimit = false) → roomF st = false → WO X tb own c t A (k st) Q E) : WO X tb own c t A (.stack k) Q E := fun h D Γ p hΓ =>
  have L := lies_of (p := p) hΓ
  have d : A.depth + 1 ≤ recursionLimit := Nat.le_trans (Nat.succ_le_succ a.dp) (Nat.le_of_ble_eq_true hd)
  have u : A.units + 1 ≤ cLine := Nat.le_trans (Nat.succ_le_succ a.un) (Nat.le_of_ble_eq_true hu)
  x _ (fun own => L.near' d own) (fun own => L.over d own) (fun own => L.warm d own) (L.room u) h D Γ p hΓ
theorem e_own {a : Addr} {q : Option Value} {k : Obj → Sem α} {o : Obj} (j : Nat) (ha : a = ad X j) (ho : fd own j = some o) (x : WO X tb own c t A (k o) Q E) : WO X tb own c t A (.load a q k) Q E := fun h D => by
  subst ha; exact x_load (D.cell j o ho) (x h D)
theorem e_tab {a a' : Addr} {q : Option Value} {k : Obj → Sem α} {o : Obj} (ha : a = a') (ho : fd tb a' = some o) (x : WO X tb own c t A (k o) Q E) : WO X tb own c t A (.load a q k) Q E := fun h D => by
  subst ha; exact x_load (D.tab _ o ho) (x h D)
theorem e_base {a a' : Addr} {q : Option Value} {k : Obj → Sem α} {o : Obj} (ha : a = a') (ho : X.h₀.get? a' = some o) (hT : a' ∉ X.T) (x : WO X tb own c t A (k o) Q E) : WO X tb own c t A (.load a q k) Q E := fun h D => by
  subst ha; exact x_load (D.keep _ o ho hT) (x h D)
theorem Own3.alloc {h : Heap} (D : Own3 X tb own c h) {o : Obj} (hf : o.isFreed = false) (h97 : Nat.ble 97 c = true) : Own3 X tb ((c, o) :: own) (c + 1) (h.push o) := by
  refine ⟨fun b o' e q => Heap.get?_push_of_some _ (D.keep b o' e q), fun a o' e => Heap.get?_push_of_some _ (D.tab a o' e), D.tT, fun k o' e => ?_, fun k o' e => ?_, D.old, D.sz0, by rw [Heap.size_push, D.sz]; rfl⟩
  · rw [fd_cons] at e
    split at e
    · rename_i hk; cases e; rw [← hk, ← D.sz]; exact Heap.get?_push_size _ hf
    · exact Heap.get?_push_of_some _ (D.cell k o' e)
  · rw [fd_cons] at e
    split at e
    · rename_i hk; rw [← hk]; exact ⟨Nat.le_of_ble_eq_true h97, Nat.lt_succ_self _⟩
    · exact ⟨(D.lt k o' e).1, Nat.lt_succ_of_lt (D.lt k o' e).2⟩
theorem e_alloc {o o' : Obj} {c' : Nat} {k : Addr → Sem α} (ho : o = o') (hf : o'.isFreed = false) (h97 : Nat.ble 97 c = true) (hc : c + 1 = c') (x : WO X tb ((c, o') :: own) c' t A (k (ad X c)) Q E) : WO X tb own c t A (.alloc o k) Q E := fun h D => by
  subst ho hc
  refine wpAny_bind (m := alloc o) (f := k) (wpAny_alloc ?_)
  have z := x _ (D.alloc hf h97)
  rw [← D.sz] at z
  exact z
theorem ad_inj {j k : Nat} (h : ad X j = ad X k) : j = k := Nat.add_left_cancel h
theorem e_upd {a : Addr} {q : Option Value} {f : Obj → Obj} {k : Unit → Sem α} {o o' : Obj} (j : Nat) (ha : a = ad X j) (hm : fd own j = some o) (ho : f o = o') (hf : o'.isFreed = false)
    (x : WO X tb ((j, o') :: own) c t A (k ()) Q E) : WO X tb own c t A (.update a q f k) Q E := fun h D => by
  subst ha ho
  have z := D.cell j o hm
  have hs : Heap.SameBut (ad X j) h (h.update (ad X j) f) := Heap.SameBut.update ..
  have ge : (h.update (ad X j) f).get? (ad X j) = some (f o) := by first | exact Heap.get?_update_self f z hf | exact Heap.get?_update_self _ z hf
  have l0 : X.h₀.objs.size ≤ ad X j := by rw [D.sz0]; exact Nat.add_le_add_left (D.lt j o hm).1 _
  refine wpAny_bind (m := updatePart _ q f) (f := k) (wpAny_updatePart z (x _ ⟨fun b o' e q => (hs.2 b ?_).trans (D.keep b o' e q), fun a o' e => (hs.2 a ?_).trans (D.tab a o' e), D.tT, fun i o' e => ?_, fun i o' e => ?_, D.old, D.sz0, by rw [hs.1]; exact D.sz⟩))
  · rintro rfl; exact absurd (Heap.lt_size e) (Nat.not_lt_of_le l0)
  · rintro rfl; exact absurd (D.old _ (D.tT _ _ e)) (Nat.not_lt_of_le l0)
  · rw [fd_cons] at e
    split at e
    · rename_i hk; cases e; rw [← hk]; exact ge
    · rename_i hk; exact (hs.2 _ fun q => hk (ad_inj q).symm).trans (D.cell i o' e)
  · rw [fd_cons] at e
    split at e
    · rename_i hk; rw [← hk]; exact D.lt j o hm
    · exact D.lt i o' e
theorem e_updT {a a' : Addr} {q : Option Value} {f : Obj → Obj} {k : Unit → Sem α} {o o' : Obj} (ha : a = a') (hm : fd tb a' = some o) (ho : f o = o') (hf : o'.isFreed = false)
    (x : WO X ((a', o') :: tb) own c t A (k ()) Q E) : WO X tb own c t A (.update a q f k) Q E := fun h D => by
  subst ha ho
  have z := D.tab _ o hm
  have hs : Heap.SameBut a h (h.update a f) := Heap.SameBut.update ..
  have ge : (h.update a f).get? a = some (f o) := by first | exact Heap.get?_update_self f z hf | exact Heap.get?_update_self _ z hf
  have hT := D.tT _ _ hm
  have l0 : a < X.h₀.objs.size := D.old _ hT
  refine wpAny_bind (m := updatePart _ q f) (f := k) (wpAny_updatePart z (x _ ⟨fun b o' e q => (hs.2 b fun z => q (z ▸ hT)).trans (D.keep b o' e q), fun i o' e => ?_, fun i o' e => ?_, fun i o' e => (hs.2 _ fun q => ?_).trans (D.cell i o' e), D.lt, D.old, D.sz0, by rw [hs.1]; exact D.sz⟩))
  · rw [fd_cons] at e
    split at e
    · rename_i hk; cases e; rw [← hk]; exact ge
    · rename_i hk; exact (hs.2 _ fun q => hk q.symm).trans (D.tab i o' e)
  · rw [fd_cons] at e
    split at e
    · rename_i hk; rw [← hk]; exact hT
    · exact D.tT i o' e
  · have : X.h₀.objs.size ≤ ad X i := by rw [D.sz0]; exact Nat.add_le_add_left (D.lt i o' e).1 _
    rw [q] at this
    exact absurd l0 (Nat.not_lt_of_le this)
def QB (X : Cx) (A : Around) (f : β → Sem α) (Q : α → Shared → Prop) (E : Value → Shared → Prop) : β → Shared → Prop := fun a s' => wpAny (model X.prog X.w) A (f a) Q E s'
theorem e_bind {m : Sem β} {f : β → Sem α} (x : WO X tb own c t A m (QB X A f Q E) E) : WO X tb own c t A (R.bindR m f) Q E := fun h D => by
  rw [← R.bindR_eq]; exact wpAny_bind (x h D)
theorem e_catch {m : Sem α} {f : Value → Sem α} (x : WO X tb own c t A m Q (fun e s' => wpAny (model X.prog X.w) A (f e) Q E s')) : WO X tb own c t A (R.catchR m f) Q E := fun h D => by
  rw [← R.catchR_eq]; exact wpAny_tryCatch (x h D)
theorem e_onRaise {m : Sem α} {f : Value → Sem Unit} (x : WO X tb own c t A m Q (fun e s' => wpAny (model X.prog X.w) A (f e) (fun _ s'' => E e s'') E s')) : WO X tb own c t A (R.onRaiseR m f) Q E := fun h D => by
  rw [← R.onRaiseR_eq]; exact wpAny_onRaise (x h D)
theorem e_keep {m : Sem α} {vs : List Value} (x : WO X tb own c t A m Q E) : WO X tb own c t A (R.keepR vs m) Q E := fun h D => by
  rw [← R.keepR_eq]; exact Calls.wpAny_keep (x h D)
theorem e_pureB {A' : Around} {E' : Value → Shared → Prop} {a : β} {f : β → Sem α} (x : WO X tb own c t A (f a) Q E) : WO X tb own c t A' (Sem.pure a) (QB X A f Q E) E' := fun h D => wpAny_pure (x h D)
theorem e_end {a : α} (x : ∀ h, Own3 X tb own c h → Q a ⟨h, X.g, X.d, t, X.os⟩) : WO X tb own c t A (Sem.pure a) Q E := fun h D => wpAny_pure (x h D)
theorem e_call {cd : Code} {gg : Bool} {l : List Value} {k : Result → Sem α} (x : CO X tb own c t A cd (postA X.prog X.w A Q E k)) : WO X tb own c t A (.call cd none gg l k) Q E := fun h D => x_call (x h D) (fun h => by cases h)
theorem e_code {cd cd' : Code} {R : Result → Shared → Prop} (hc : cd = cd') (x : WO X tb own c t (A.under cd') (DX cd') (postC X.prog X.w A R) (postE R)) : CO X tb own c t A cd R := fun h D => by
  subst hc
  refine x_code ?_
  rw [DX_eq]
  exact wpAny_mono (x h D) (fun fin s' h' => by cases fin <;> exact h') fun _ _ h' => h'
theorem e_again {A' : Around} {R : Result → Shared → Prop} {c' : Code} {E : Value → Shared → Prop} (hq : c'.quiet = true) (x : CO X tb own c t A' c' R) : WO X tb own c t A (.pure (.again c')) (postC X.prog X.w A' R) E := fun h D => wpAny_pure ⟨hq, x h D⟩
theorem e_done {A' A'' : Around} {f : Flow} {E' : Value → Shared → Prop} {k : Result → Sem α} (x : WO X tb own c t A'' (k (.ok f)) Q E) : WO X tb own c t A (.pure (.done f)) (postC X.prog X.w A' (postA X.prog X.w A'' Q E k)) E' := fun h D => wpAny_pure (x h D)
theorem e_brT {b : Bool} {x y : Sem α} (e : b = true) (h' : WO X tb own c t A y Q E) : WO X tb own c t A (@Bool.rec (fun _ => Sem α) x y b) Q E := by subst e; exact h'
theorem e_brF {b : Bool} {x y : Sem α} (e : b = false) (h' : WO X tb own c t A x Q E) : WO X tb own c t A (@Bool.rec (fun _ => Sem α) x y b) Q E := by subst e; exact h'
theorem e_anyM {I : Monad Sem} {d : DecidableEq Value} {f : Value → Sem Bool} {l : List Value} {s' : String} {n : Nat} {Q : Bool → Shared → Prop} (e : l = [Value.ref n, Value.type s'])
    (fl : R.filterR (fun x => @bne Value (@instBEqOfDecidableEq Value d) x (Value.ref n)) [Value.ref n, Value.type s'] = [Value.type s'])
    (x : WO X tb own c t A (@List.anyM Sem I _ f [Value.type s']) Q E) : WO X tb own c t A (@List.anyM Sem I _ f (R.filterR (fun x => @bne Value (@instBEqOfDecidableEq Value d) x (Value.ref n)) l)) Q E := by
  subst e; rw [fl]; exact x
theorem nz_ad {a : Addr} {j : Nat} (e : a = ad X j) : a = ad X j := e
end
theorem nz_dict {o : Obj} {c : Value} {dd : Option Addr} {l l' : List DictEntry} {n n' : Nat} {sl : Array (Option Value)} (e : o = ⟨c, dd, .dict ⟨l⟩ n, sl⟩) (hl : l = l') (hn : n = n') : o = ⟨c, dd, .dict ⟨l'⟩ n', sl⟩ := by subst hl hn; exact e
theorem nz_seq {o : Obj} {c : Value} {dd : Option Addr} {l l' : List Value} {n n' : Nat} {sl : Array (Option Value)} (e : o = ⟨c, dd, .seq ⟨l⟩ n, sl⟩) (hl : l = l') (hn : n = n') : o = ⟨c, dd, .seq ⟨l'⟩ n', sl⟩ := by subst hl hn; exact e
theorem nz_fields {o : Obj} {c : Value} {dd : Option Addr} {l l' : List Value} {sl : Array (Option Value)} (e : o = ⟨c, dd, .fields ⟨l⟩, sl⟩) (hl : l = l') : o = ⟨c, dd, .fields ⟨l'⟩, sl⟩ := by subst hl; exact e
theorem nz_sl {o : Obj} {c : Value} {dd : Option Addr} {da : Data} {sl sl' : List (Option Value)} (e : o = ⟨c, dd, da, ⟨sl⟩⟩) (hs : sl = sl') : o = ⟨c, dd, da, ⟨sl'⟩⟩ := by subst hs; exact e
theorem nz_cell {o : Obj} {c : Value} {dd : Option Addr} {v v' : Option Value} {sl : Array (Option Value)} (e : o = ⟨c, dd, .cell v, sl⟩) (hv : v = v') : o = ⟨c, dd, .cell v', sl⟩ := by subst hv; exact e
theorem nz_ref {v : Value} {a a' : Addr} (e : v = .ref a) (ha : a = a') : v = .ref a' := by subst ha; exact e
theorem nz_some {β : Type} {v : Option β} {a a' : β} (e : v = some a) (ha : a = a') : v = some a' := by subst ha; exact e
theorem nz_pair {β γ : Type} {v : β × γ} {a : β} {b b' : γ} (e : v = (a, b)) (hb : b = b') : v = (a, b') := by subst hb; exact e
theorem nz_env {v : Env} {sc : Scope} {l l' g g' : Addr} {cs cs' : List (Str × Addr)} {q : Str} {f f' : Option Addr} {c c' : Value} {fr fr' : Option Addr} {b b' : Addr}
    (e : v = ⟨sc, l, g, cs, q, f, c, fr, b⟩) (hl : l = l') (hg : g = g') (hcs : cs = cs') (hf : f = f') (hc : c = c') (hfr : fr = fr') (hb : b = b') : v = ⟨sc, l', g', cs', q, f', c', fr', b'⟩ := by
  subst hl hg hcs hf hc hfr hb; exact e
theorem nz_cfunc {c : Code} {b : List Stmt} {v v' : Env} (e : c = .func b v) (h : v = v') : c = .func b v' := by subst h; exact e
theorem nz_cbody {c : Code} {b : List Stmt} {v v' : Env} (e : c = .body b v) (h : v = v') : c = .body b v' := by subst h; exact e
theorem nz_ccall {c : Code} {f f' : Value} {p p' : List Value} {k : List (Str × Value)} (e : c = .call f ⟨p, k⟩) (hf : f = f') (h : p = p') : c = .call f' ⟨p', k⟩ := by subst hf h; exact e
theorem nz_cbuiltin {c : Code} {i : String} {p p' : List Value} {k : List (Str × Value)} (e : c = .builtin i ⟨p, k⟩) (h : p = p') : c = .builtin i ⟨p', k⟩ := by subst h; exact e
theorem nz_func {o : Obj} {c : Value} {dd : Option Addr} {sl : Array (Option Value)} {nm qn qn' : Str} {ps : Arguments} {b : FuncBody} {sc : Scope} {g g' : Addr} {cl cl' : List (Str × Addr)} {df df' kd kd' dc dc' pm pm' : Value} {an an' : Option Addr} {cd cd' ct ct' : Value} {bu bu' : Addr}
    (e : o = ⟨c, dd, .func ⟨nm, qn, ps, b, sc, g, cl, df, kd, dc, pm, an, cd, ct, bu⟩, sl⟩) (hqn : qn = qn') (hg : g = g') (hcl : cl = cl') (hdf : df = df') (hkd : kd = kd') (hdc : dc = dc') (hpm : pm = pm') (han : an = an') (hcd : cd = cd') (hct : ct = ct') (hbu : bu = bu') :
    o = ⟨c, dd, .func ⟨nm, qn', ps, b, sc, g', cl', df', kd', dc', pm', an', cd', ct', bu'⟩, sl⟩ := by
  subst hqn hg hcl hdf hkd hdc hpm han hcd hct hbu; exact e
theorem nz_cls {o : Obj} {cl cl' : Value} {dd : Option Addr} {nm nm' : Str} {bs bs' mr mr' : List Value} {ns ns' : Addr} {qn qn' : Str} {hd hd' : Bool} {sn sn' : List Str} {sc sc' : List Value} {ab : Bool} {co : Option Bool} {hl hl' : Bool} {sl : List (Option Value)}
    (e : o = ⟨cl, dd, .cls ⟨nm, bs, mr, ns, qn, hd, sn, sc, ab, co, hl⟩, ⟨sl⟩⟩) (hcl : cl = cl') (hnm : nm = nm') (hqn : qn = qn') (hbs : bs = bs') (hmr : mr = mr') (hns : ns = ns') (hhd : hd = hd') (hsn : sn = sn') (hsc : sc = sc') (hhl : hl = hl') :
    o = ⟨cl', dd, .cls ⟨nm', bs', mr', ns', qn', hd', sn', sc', ab, co, hl'⟩, ⟨sl⟩⟩ := by
  subst hcl hnm hqn hbs hmr hns hhd hsn hsc hhl; exact e
theorem elem_self {d : DecidableEq Value} {n : Nat} {l : List Value} : @R.elemR Value (@instBEqOfDecidableEq Value d) (.ref n) (.ref n :: l) = true := by
  have e : (@BEq.beq Value (@instBEqOfDecidableEq Value d) (.ref n) (.ref n)) = true := beq_self_eq_true _
  show @Bool.rec (fun _ => Bool) (R.elemR _ _) true _ = true
  rw [e]
theorem drop_self {d : DecidableEq Value} {v : Value} {n : Nat} {s : String} {l : List Value} (ev : v = .ref n) (e : l = [.ref n, .type s]) : List.drop 1 (List.dropWhile (fun x => @bne Value (@instBEqOfDecidableEq Value d) x v) l) = [.type s] := by
  subst ev e
  rw [List.dropWhile_cons_of_neg (by simp [bne])]
  rfl
theorem flt_self {d : DecidableEq Value} {n : Nat} {s : String} : R.filterR (fun x => @bne Value (@instBEqOfDecidableEq Value d) x (Value.ref n)) [Value.ref n, Value.type s] = [Value.type s] := by
  rw [← R.filterR_eq]
  rw [List.filter_cons_of_neg (by simp [bne])]
  rw [List.filter_cons_of_pos (by simp [bne])]
  rfl
theorem nz_nil {β : Type} {l : List β} (e : l = []) : l = [] := e
theorem nz_cons {β : Type} {l xs xs' : List β} {x x' : β} (e : l = x :: xs) (hx : x = x') (h : xs = xs') : l = x' :: xs' := by subst hx h; exact e
theorem nz_ent {x : DictEntry} {a a' : Int} {b b' c c' : Value} (e : x = ⟨a, b, c⟩) (ha : a = a') (hb : b = b') (hc : c = c') : x = ⟨a', b', c'⟩ := by subst ha hb hc; exact e

end
open PySem.W.X
local macro_rules | `(tactic| wtm_at "mine n_w") => `(tactic| first | (conv => lhs; whnf) | exact rfl)
local macro_rules | `(tactic| wtm_at "mine n_proj") => `(tactic| first | (conv => lhs; dsimp only) | exact rfl)
local macro_rules | `(tactic| wtm_at "mine n_addr") => `(tactic| first
  | ((refine' nz_ad ?e); (case e => exact rfl))
  | wtm_at "mine n_w")
local macro_rules | `(tactic| wtm_at "mine n_val") => `(tactic| first
  | ((refine' nz_ref ?e ?ha); (case e => exact rfl); (case ha => wtm_at "mine n_addr"))
  | wtm_at "mine n_w")
local macro_rules | `(tactic| wtm_at "mine n_oad") => `(tactic| first
  | ((refine' nz_some ?e ?ha); (case e => exact rfl); (case ha => wtm_at "mine n_addr"))
  | wtm_at "mine n_w")
local macro_rules | `(tactic| wtm_at "mine n_oval") => `(tactic| first
  | ((refine' nz_some ?e ?ha); (case e => exact rfl); (case ha => wtm_at "mine n_val"))
  | wtm_at "mine n_w")
local macro_rules | `(tactic| wtm_at "mine n_ent") => `(tactic| first
  | ((refine' nz_ent ?e ?ha ?hb ?hc); (case e => exact rfl); (case ha => wtm_at "mine n_w"); (case hb => wtm_at "mine n_w"); (case hc => wtm_at "mine n_val"))
  | ((refine' nz_pair ?e ?hb); (case e => exact rfl); (case hb => wtm_at "mine n_addr"))
  | wtm_at "mine n_val")
local macro_rules | `(tactic| wtm_at "mine n_list") => `(tactic| first
  | (refine nz_nil ?_; exact rfl)
  | ((refine' nz_cons ?e ?hx ?h); (case e => exact rfl); (case hx => wtm_at "mine n_ent"); (case h => wtm_at "mine n_list")))
local macro_rules | `(tactic| wtm_at "mine n_env") => `(tactic| ((refine' nz_env ?e ?hl ?hg ?hcs ?hf ?hc ?hfr ?hb); (case e => exact rfl); (case hl => wtm_at "mine n_addr"); (case hg => wtm_at "mine n_addr"); (case hcs => wtm_at "mine n_list"); (case hf => wtm_at "mine n_oad"); (case hc => wtm_at "mine n_val"); (case hfr => wtm_at "mine n_oad"); (case hb => wtm_at "mine n_addr")))
local macro_rules | `(tactic| wtm_at "mine n_code") => `(tactic| first
  | ((refine' nz_cbuiltin ?e ?h); (case e => exact rfl); (case h => wtm_at "mine n_list"))
  | ((refine' nz_ccall ?e ?hf ?h); (case e => exact rfl); (case hf => wtm_at "mine n_val"); (case h => wtm_at "mine n_list"))
  | ((refine' nz_cfunc ?e ?h); (case e => exact rfl); (case h => wtm_at "mine n_env"))
  | ((refine' nz_cbody ?e ?h); (case e => exact rfl); (case h => wtm_at "mine n_env"))
  | exact rfl)
local macro_rules | `(tactic| wtm_at "mine n_slots") => `(tactic| first
  | (refine nz_nil ?_; exact rfl)
  | ((refine' nz_cons ?e ?hx ?h); (case e => exact rfl); (case hx => wtm_at "mine n_oval"); (case h => wtm_at "mine n_slots")))
local macro_rules | `(tactic| wtm_at "mine n_obj0") => `(tactic| first
  | ((refine' nz_dict ?e ?hl ?hn); (case e => exact rfl); (case hl => wtm_at "mine n_list"); (case hn => wtm_at "mine n_w"))
  | ((refine' nz_seq ?e ?hl ?hn); (case e => exact rfl); (case hl => wtm_at "mine n_list"); (case hn => wtm_at "mine n_w"))
  | ((refine' nz_fields ?e ?hl); (case e => exact rfl); (case hl => wtm_at "mine n_list"))
  | ((refine' nz_func ?e ?hqn ?hg ?hcl ?hdf ?hkd ?hdc ?hpm ?han ?hcd ?hct ?hbu); (case e => exact rfl); (case hqn => wtm_at "mine n_w"); (case hg => wtm_at "mine n_addr"); (case hcl => wtm_at "mine n_list"); (case hdf => wtm_at "mine n_val"); (case hkd => wtm_at "mine n_val"); (case hdc => wtm_at "mine n_val"); (case hpm => wtm_at "mine n_val"); (case han => wtm_at "mine n_oad"); (case hcd => wtm_at "mine n_val"); (case hct => wtm_at "mine n_val"); (case hbu => wtm_at "mine n_addr"))
  | ((refine' nz_cls ?e ?hcl ?hnm ?hqn ?hbs ?hmr ?hns ?hhd ?hsn ?hsc ?hhl); (case e => exact rfl); (case hcl => wtm_at "mine n_val"); (case hnm => wtm_at "mine n_proj"); (case hqn => wtm_at "mine n_proj"); (case hbs => wtm_at "mine n_list"); (case hmr => wtm_at "mine n_list"); (case hns => wtm_at "mine n_addr"); (case hhd => wtm_at "mine n_w"); (case hsn => wtm_at "mine n_list"); (case hsc => wtm_at "mine n_list"); (case hhl => first | ((show _ = false); kernel_rfl!) | wtm_at "mine n_w"))
  | ((refine' nz_cell ?e ?hv); (case e => exact rfl); (case hv => wtm_at "mine n_oval"))
  | wtm_at "mine n_w")
local macro_rules | `(tactic| wtm_at "mine n_obj") => `(tactic| first
  | ((refine' nz_sl ?e ?hs); (case e => wtm_at "mine n_obj0"); (case hs => wtm_at "mine n_slots"))
  | wtm_at "mine n_obj0")
local macro_rules | `(tactic| wtm_at "mine gw") => `(tactic| conv => arg 7; whnf)
local macro_rules | `(tactic| wtm_at "mine g_ak") => `(tactic| first
  | with_reducible assumption
  | ((with_reducible refine' AK.under ?a ?hw ?hv); (case a => wtm_at "mine g_ak"); (case hw => kernel_rfl!); (case hv => kernel_rfl!)))
set_option hygiene false in
local macro_rules | `(tactic| wtm_at "mine g_st") => `(tactic| ((with_reducible refine' e_stack ?a ?hd ?hu ?_); (case a => wtm_at "mine g_ak"); (case hd => kernel_rfl!); (case hu => kernel_rfl!); intro st L1 L2 L3 L4))

open PySem.W.X
/-! the same rules, the tree told by what it is a part of -/
/-- one stretch of what looks at nothing -/
noncomputable abbrev skS {α : Type} (S : Setting) (ih : Sem α → Sem α) (t : Sem α) : Sem α :=
  @Sem.casesOn α (fun _ => Sem α) t (fun a => Sem.pure a) (fun e => Sem.raise e) (fun w => Sem.unsupported w) (fun e => Sem.finish e) (fun _ k => ih (k ())) (fun _ k => ih (k ())) (fun a p k => Sem.load a p k) (fun a p f k => Sem.update a p f k) (fun o k => Sem.alloc o k) (fun a k => Sem.loadIfAlive a k) (fun _ k => ih (k ())) (fun a k => Sem.register a k) (fun k => Sem.fresh k) (fun k => ih (k S)) (fun s n k => Sem.choose s n k) (fun q l k => Sem.os q l k) (fun c h g l k => Sem.call c h g l k) (fun o k => Sem.handled o k) (fun c k => Sem.newGen c k) (fun g k => Sem.genState g k) (fun g r l k => Sem.resume g r l k) (fun v g l k => Sem.yield v g l k) (fun k => Sem.stack k) (fun c k => Sem.fork c k) (fun k => Sem.thread k) (fun a f t l k => Sem.await a f t l k)
noncomputable def skN {α : Type} (S : Setting) (n : Nat) : Sem α → Sem α := @Nat.rec (fun _ => Sem α → Sem α) (fun t => t) (fun _ ih => skS S ih) n
noncomputable def sk {α : Type} (X : Cx) (e : Sem α) : Sem α := skN ⟨X.prog, X.w.params⟩ 400 e
theorem e_sk {α : Type} {X : Cx} {tb own : Hist} {c t : Nat} {A : Around} {Q : α → Shared → Prop} {E : Value → Shared → Prop} : ∀ (n : Nat) {e : Sem α}, WO X tb own c t A (skN ⟨X.prog, X.w.params⟩ n e) Q E → WO X tb own c t A e Q E
  | 0, _, x => x
  | n + 1, e, x => by
    cases e with
    | rule a k => exact fun h D => x_rule (e_sk n x h D)
    | «at» a k => exact fun h D => x_at (e_sk n x h D)
    | point a k => exact fun h D => x_point (e_sk n x h D)
    | ask k => exact fun h D => x_ask (e_sk n x h D)
    | _ => exact x
noncomputable abbrev pA {α : Type} (t : Sem α) : Option Addr := @Sem.casesOn α (fun _ => Option Addr) t (fun _ => none) (fun _ => none) (fun _ => none) (fun _ => none) (fun _ _ => none) (fun _ _ => none) (fun a _ _ => some a) (fun _ _ _ _ => none) (fun _ _ => none) (fun _ _ => none) (fun _ _ => none) (fun _ _ => none) (fun _ => none) (fun _ => none) (fun _ _ _ => none) (fun _ _ _ => none) (fun _ _ _ _ _ => none) (fun _ _ => none) (fun _ _ => none) (fun _ _ => none) (fun _ _ _ _ => none) (fun _ _ _ _ => none) (fun _ => none) (fun _ _ => none) (fun _ => none) (fun _ _ _ _ _ => none)
noncomputable abbrev pK {α : Type} (t : Sem α) : Obj → Sem α := @Sem.casesOn α (fun _ => Obj → Sem α) t (fun _ => fun _ => .unsupported "") (fun _ => fun _ => .unsupported "") (fun _ => fun _ => .unsupported "") (fun _ => fun _ => .unsupported "") (fun _ _ => fun _ => .unsupported "") (fun _ _ => fun _ => .unsupported "") (fun _ _ k => k) (fun _ _ _ _ => fun _ => .unsupported "") (fun _ _ => fun _ => .unsupported "") (fun _ _ => fun _ => .unsupported "") (fun _ _ => fun _ => .unsupported "") (fun _ _ => fun _ => .unsupported "") (fun _ => fun _ => .unsupported "") (fun _ => fun _ => .unsupported "") (fun _ _ _ => fun _ => .unsupported "") (fun _ _ _ => fun _ => .unsupported "") (fun _ _ _ _ _ => fun _ => .unsupported "") (fun _ _ => fun _ => .unsupported "") (fun _ _ => fun _ => .unsupported "") (fun _ _ => fun _ => .unsupported "") (fun _ _ _ _ => fun _ => .unsupported "") (fun _ _ _ _ => fun _ => .unsupported "") (fun _ => fun _ => .unsupported "") (fun _ _ => fun _ => .unsupported "") (fun _ => fun _ => .unsupported "") (fun _ _ _ _ _ => fun _ => .unsupported "")
noncomputable abbrev pUA {α : Type} (t : Sem α) : Option Addr := @Sem.casesOn α (fun _ => Option Addr) t (fun _ => none) (fun _ => none) (fun _ => none) (fun _ => none) (fun _ _ => none) (fun _ _ => none) (fun _ _ _ => none) (fun a _ _ _ => some a) (fun _ _ => none) (fun _ _ => none) (fun _ _ => none) (fun _ _ => none) (fun _ => none) (fun _ => none) (fun _ _ _ => none) (fun _ _ _ => none) (fun _ _ _ _ _ => none) (fun _ _ => none) (fun _ _ => none) (fun _ _ => none) (fun _ _ _ _ => none) (fun _ _ _ _ => none) (fun _ => none) (fun _ _ => none) (fun _ => none) (fun _ _ _ _ _ => none)
noncomputable abbrev pUF {α : Type} (t : Sem α) : Obj → Obj := @Sem.casesOn α (fun _ => Obj → Obj) t (fun _ => id) (fun _ => id) (fun _ => id) (fun _ => id) (fun _ _ => id) (fun _ _ => id) (fun _ _ _ => id) (fun _ _ f _ => f) (fun _ _ => id) (fun _ _ => id) (fun _ _ => id) (fun _ _ => id) (fun _ => id) (fun _ => id) (fun _ _ _ => id) (fun _ _ _ => id) (fun _ _ _ _ _ => id) (fun _ _ => id) (fun _ _ => id) (fun _ _ => id) (fun _ _ _ _ => id) (fun _ _ _ _ => id) (fun _ => id) (fun _ _ => id) (fun _ => id) (fun _ _ _ _ _ => id)
noncomputable abbrev pUK {α : Type} (t : Sem α) : Sem α := @Sem.casesOn α (fun _ => Sem α) t (fun _ => .unsupported "") (fun _ => .unsupported "") (fun _ => .unsupported "") (fun _ => .unsupported "") (fun _ _ => .unsupported "") (fun _ _ => .unsupported "") (fun _ _ _ => .unsupported "") (fun _ _ _ k => k ()) (fun _ _ => .unsupported "") (fun _ _ => .unsupported "") (fun _ _ => .unsupported "") (fun _ _ => .unsupported "") (fun _ => .unsupported "") (fun _ => .unsupported "") (fun _ _ _ => .unsupported "") (fun _ _ _ => .unsupported "") (fun _ _ _ _ _ => .unsupported "") (fun _ _ => .unsupported "") (fun _ _ => .unsupported "") (fun _ _ => .unsupported "") (fun _ _ _ _ => .unsupported "") (fun _ _ _ _ => .unsupported "") (fun _ => .unsupported "") (fun _ _ => .unsupported "") (fun _ => .unsupported "") (fun _ _ _ _ _ => .unsupported "")
noncomputable abbrev pO {α : Type} (t : Sem α) : Option Obj := @Sem.casesOn α (fun _ => Option Obj) t (fun _ => none) (fun _ => none) (fun _ => none) (fun _ => none) (fun _ _ => none) (fun _ _ => none) (fun _ _ _ => none) (fun _ _ _ _ => none) (fun o _ => some o) (fun _ _ => none) (fun _ _ => none) (fun _ _ => none) (fun _ => none) (fun _ => none) (fun _ _ _ => none) (fun _ _ _ => none) (fun _ _ _ _ _ => none) (fun _ _ => none) (fun _ _ => none) (fun _ _ => none) (fun _ _ _ _ => none) (fun _ _ _ _ => none) (fun _ => none) (fun _ _ => none) (fun _ => none) (fun _ _ _ _ _ => none)
noncomputable abbrev pOK {α : Type} (t : Sem α) : Addr → Sem α := @Sem.casesOn α (fun _ => Addr → Sem α) t (fun _ => fun _ => .unsupported "") (fun _ => fun _ => .unsupported "") (fun _ => fun _ => .unsupported "") (fun _ => fun _ => .unsupported "") (fun _ _ => fun _ => .unsupported "") (fun _ _ => fun _ => .unsupported "") (fun _ _ _ => fun _ => .unsupported "") (fun _ _ _ _ => fun _ => .unsupported "") (fun _ k => k) (fun _ _ => fun _ => .unsupported "") (fun _ _ => fun _ => .unsupported "") (fun _ _ => fun _ => .unsupported "") (fun _ => fun _ => .unsupported "") (fun _ => fun _ => .unsupported "") (fun _ _ _ => fun _ => .unsupported "") (fun _ _ _ => fun _ => .unsupported "") (fun _ _ _ _ _ => fun _ => .unsupported "") (fun _ _ => fun _ => .unsupported "") (fun _ _ => fun _ => .unsupported "") (fun _ _ => fun _ => .unsupported "") (fun _ _ _ _ => fun _ => .unsupported "") (fun _ _ _ _ => fun _ => .unsupported "") (fun _ => fun _ => .unsupported "") (fun _ _ => fun _ => .unsupported "") (fun _ => fun _ => .unsupported "") (fun _ _ _ _ _ => fun _ => .unsupported "")
noncomputable abbrev pF {α : Type} (t : Sem α) : Bool := @Sem.casesOn α (fun _ => Bool) t (fun _ => false) (fun _ => false) (fun _ => false) (fun _ => false) (fun _ _ => false) (fun _ _ => false) (fun _ _ _ => false) (fun _ _ _ _ => false) (fun _ _ => false) (fun _ _ => false) (fun _ _ => false) (fun _ _ => false) (fun _ => true) (fun _ => false) (fun _ _ _ => false) (fun _ _ _ => false) (fun _ _ _ _ _ => false) (fun _ _ => false) (fun _ _ => false) (fun _ _ => false) (fun _ _ _ _ => false) (fun _ _ _ _ => false) (fun _ => false) (fun _ _ => false) (fun _ => false) (fun _ _ _ _ _ => false)
noncomputable abbrev pFK {α : Type} (t : Sem α) : Tok → Sem α := @Sem.casesOn α (fun _ => Tok → Sem α) t (fun _ => fun _ => .unsupported "") (fun _ => fun _ => .unsupported "") (fun _ => fun _ => .unsupported "") (fun _ => fun _ => .unsupported "") (fun _ _ => fun _ => .unsupported "") (fun _ _ => fun _ => .unsupported "") (fun _ _ _ => fun _ => .unsupported "") (fun _ _ _ _ => fun _ => .unsupported "") (fun _ _ => fun _ => .unsupported "") (fun _ _ => fun _ => .unsupported "") (fun _ _ => fun _ => .unsupported "") (fun _ _ => fun _ => .unsupported "") (fun k => k) (fun _ => fun _ => .unsupported "") (fun _ _ _ => fun _ => .unsupported "") (fun _ _ _ => fun _ => .unsupported "") (fun _ _ _ _ _ => fun _ => .unsupported "") (fun _ _ => fun _ => .unsupported "") (fun _ _ => fun _ => .unsupported "") (fun _ _ => fun _ => .unsupported "") (fun _ _ _ _ => fun _ => .unsupported "") (fun _ _ _ _ => fun _ => .unsupported "") (fun _ => fun _ => .unsupported "") (fun _ _ => fun _ => .unsupported "") (fun _ => fun _ => .unsupported "") (fun _ _ _ _ _ => fun _ => .unsupported "")
noncomputable abbrev pC {α : Type} (t : Sem α) : Option Code := @Sem.casesOn α (fun _ => Option Code) t (fun _ => none) (fun _ => none) (fun _ => none) (fun _ => none) (fun _ _ => none) (fun _ _ => none) (fun _ _ _ => none) (fun _ _ _ _ => none) (fun _ _ => none) (fun _ _ => none) (fun _ _ => none) (fun _ _ => none) (fun _ => none) (fun _ => none) (fun _ _ _ => none) (fun _ _ _ => none) (fun c h _ _ _ => match h with | none => some c | some _ => none) (fun _ _ => none) (fun _ _ => none) (fun _ _ => none) (fun _ _ _ _ => none) (fun _ _ _ _ => none) (fun _ => none) (fun _ _ => none) (fun _ => none) (fun _ _ _ _ _ => none)
noncomputable abbrev pCK {α : Type} (t : Sem α) : Result → Sem α := @Sem.casesOn α (fun _ => Result → Sem α) t (fun _ => fun _ => .unsupported "") (fun _ => fun _ => .unsupported "") (fun _ => fun _ => .unsupported "") (fun _ => fun _ => .unsupported "") (fun _ _ => fun _ => .unsupported "") (fun _ _ => fun _ => .unsupported "") (fun _ _ _ => fun _ => .unsupported "") (fun _ _ _ _ => fun _ => .unsupported "") (fun _ _ => fun _ => .unsupported "") (fun _ _ => fun _ => .unsupported "") (fun _ _ => fun _ => .unsupported "") (fun _ _ => fun _ => .unsupported "") (fun _ => fun _ => .unsupported "") (fun _ => fun _ => .unsupported "") (fun _ _ _ => fun _ => .unsupported "") (fun _ _ _ => fun _ => .unsupported "") (fun _ _ _ _ k => k) (fun _ _ => fun _ => .unsupported "") (fun _ _ => fun _ => .unsupported "") (fun _ _ => fun _ => .unsupported "") (fun _ _ _ _ => fun _ => .unsupported "") (fun _ _ _ _ => fun _ => .unsupported "") (fun _ => fun _ => .unsupported "") (fun _ _ => fun _ => .unsupported "") (fun _ => fun _ => .unsupported "") (fun _ _ _ _ _ => fun _ => .unsupported "")
noncomputable abbrev pP {α : Type} (t : Sem α) : Option α := @Sem.casesOn α (fun _ => Option α) t (fun a => some a) (fun _ => none) (fun _ => none) (fun _ => none) (fun _ _ => none) (fun _ _ => none) (fun _ _ _ => none) (fun _ _ _ _ => none) (fun _ _ => none) (fun _ _ => none) (fun _ _ => none) (fun _ _ => none) (fun _ => none) (fun _ => none) (fun _ _ _ => none) (fun _ _ _ => none) (fun _ _ _ _ _ => none) (fun _ _ => none) (fun _ _ => none) (fun _ _ => none) (fun _ _ _ _ => none) (fun _ _ _ _ => none) (fun _ => none) (fun _ _ => none) (fun _ => none) (fun _ _ _ _ _ => none)
noncomputable abbrev pD (t : Sem PySem.Fin) : Option Flow := match pP t with
  | some (.done f) => some f
  | _ => none
noncomputable abbrev pG (t : Sem PySem.Fin) : Option Code := match pP t with
  | some (.again c) => some c
  | _ => none
section
variable {α β : Type} {X : Cx} {tb own : Hist} {c t : Nat} {A : Around} {Q : α → Shared → Prop} {E : Value → Shared → Prop} {e : Sem α}
theorem f_own {o : Obj} (j : Nat) (h : pA (sk X e) = some (ad X j)) (ho : fd own j = some o) (x : WO X tb own c t A (pK (sk X e) o) Q E) : WO X tb own c t A e Q E := by
  refine e_sk 400 ?_
  revert h x; show pA (sk X e) = _ → WO _ _ _ _ _ _ (pK (sk X e) _) _ _ → WO _ _ _ _ _ _ (sk X e) _ _
  generalize sk X e = s
  intro h x
  cases s <;> first | exact e_own j (Option.some.inj h) ho x | (cases h)
theorem f_tab {o : Obj} {a₀ a : Addr} (h : pA (sk X e) = some a₀) (ha : a₀ = a) (ho : fd tb a = some o) (x : WO X tb own c t A (pK (sk X e) o) Q E) : WO X tb own c t A e Q E := by
  refine e_sk 400 ?_
  revert h x; show pA (sk X e) = _ → WO _ _ _ _ _ _ (pK (sk X e) _) _ _ → WO _ _ _ _ _ _ (sk X e) _ _
  generalize sk X e = s
  intro h x
  cases s <;> first | exact e_tab ((Option.some.inj h).trans ha) ho x | (cases h)
theorem f_base {o : Obj} {a₀ a : Addr} (h : pA (sk X e) = some a₀) (ha : a₀ = a) (ho : X.h₀.get? a = some o) (hT : a ∉ X.T) (x : WO X tb own c t A (pK (sk X e) o) Q E) : WO X tb own c t A e Q E := by
  refine e_sk 400 ?_
  revert h x; show pA (sk X e) = _ → WO _ _ _ _ _ _ (pK (sk X e) _) _ _ → WO _ _ _ _ _ _ (sk X e) _ _
  generalize sk X e = s
  intro h x
  cases s <;> first | exact e_base ((Option.some.inj h).trans ha) ho hT x | (cases h)
theorem f_upd {o o₁ o' : Obj} (j : Nat) (h : pUA (sk X e) = some (ad X j)) (ho : fd own j = some o) (hf : pUF (sk X e) o = o₁) (hn : o₁ = o') (hr : o'.isFreed = false) (x : WO X tb ((j, o') :: own) c t A (pUK (sk X e)) Q E) : WO X tb own c t A e Q E := by
  subst hn
  refine e_sk 400 ?_
  revert h x hf; show pUA (sk X e) = _ → pUF (sk X e) _ = _ → WO _ _ _ _ _ _ (pUK (sk X e)) _ _ → WO _ _ _ _ _ _ (sk X e) _ _
  generalize sk X e = s
  intro h hf x
  cases s <;> first | exact e_upd j (Option.some.inj h) ho hf hr x | (cases h)
theorem f_updT {o o₁ o' : Obj} {a : Addr} (h : pUA (sk X e) = some a) (ho : fd tb a = some o) (hf : pUF (sk X e) o = o₁) (hn : o₁ = o') (hr : o'.isFreed = false) (x : WO X ((a, o') :: tb) own c t A (pUK (sk X e)) Q E) : WO X tb own c t A e Q E := by
  subst hn
  refine e_sk 400 ?_
  revert h x hf; show pUA (sk X e) = _ → pUF (sk X e) _ = _ → WO _ _ _ _ _ _ (pUK (sk X e)) _ _ → WO _ _ _ _ _ _ (sk X e) _ _
  generalize sk X e = s
  intro h hf x
  cases s <;> first | exact e_updT (Option.some.inj h) ho hf hr x | (cases h)
theorem f_alloc {o o' : Obj} {c' : Nat} (h : pO (sk X e) = some o) (ho : o = o') (hr : o'.isFreed = false) (h97 : Nat.ble 97 c = true) (hc : c + 1 = c') (x : WO X tb ((c, o') :: own) c' t A (pOK (sk X e) (ad X c)) Q E) : WO X tb own c t A e Q E := by
  refine e_sk 400 ?_
  revert h x; show pO (sk X e) = _ → WO _ _ _ _ _ _ (pOK (sk X e) _) _ _ → WO _ _ _ _ _ _ (sk X e) _ _
  generalize sk X e = s
  intro h x
  cases s <;> first | exact e_alloc ((Option.some.inj h).trans ho) hr h97 hc x | (cases h)
theorem f_fresh (h : pF (sk X e) = true) (x : WO X tb own c t.succ A (pFK (sk X e) t) Q E) : WO X tb own c t A e Q E := by
  refine e_sk 400 ?_
  revert h x; show pF (sk X e) = _ → WO _ _ _ _ _ _ (pFK (sk X e) _) _ _ → WO _ _ _ _ _ _ (sk X e) _ _
  generalize sk X e = s
  intro h x
  cases s <;> first | exact e_fresh x | (cases h)
theorem f_call {cd cd' : Code} (h : pC (sk X e) = some cd) (hc : cd = cd') (x : WO X tb own c t (A.under cd') (DX cd') (postC X.prog X.w A (postA X.prog X.w A Q E (pCK (sk X e)))) (postE (postA X.prog X.w A Q E (pCK (sk X e))))) : WO X tb own c t A e Q E := by
  refine e_sk 400 ?_
  have y : CO X tb own c t A cd (postA X.prog X.w A Q E (pCK (sk X e))) := e_code hc x
  clear x
  revert h y; show pC (sk X e) = _ → CO _ _ _ _ _ _ _ (postA _ _ _ _ _ (pCK (sk X e))) → WO _ _ _ _ _ _ (sk X e) _ _
  generalize sk X e = s
  intro h y
  cases s with
  | call c₀ hd g l k =>
    cases hd with
    | none => cases Option.some.inj h; exact e_call y
    | some v => cases h
  | _ => cases h
theorem f_done {A' A'' : Around} {f : Flow} {e : Sem PySem.Fin} {E' : Value → Shared → Prop} {k : Result → Sem α} (h : pD (sk X e) = some f) (x : WO X tb own c t A'' (k (.ok f)) Q E) : WO X tb own c t A e (postC X.prog X.w A' (postA X.prog X.w A'' Q E k)) E' := by
  refine e_sk 400 ?_
  revert h; show pD (sk X e) = _ → WO _ _ _ _ _ _ (sk X e) _ _
  generalize sk X e = s
  intro h
  cases s with
  | pure fin =>
    cases fin with
    | done f => cases Option.some.inj h; exact e_done x
    | again => cases h
  | _ => cases h
theorem f_again {A' : Around} {R : Result → Shared → Prop} {c₀ c' : Code} {e : Sem PySem.Fin} {E' : Value → Shared → Prop} (h : pG (sk X e) = some c₀) (hc : c₀ = c') (hq : c'.quiet = true) (x : WO X tb own c t (A'.under c') (DX c') (postC X.prog X.w A' R) (postE R)) : WO X tb own c t A e (postC X.prog X.w A' R) E' := by
  refine e_sk 400 ?_
  have y : CO X tb own c t A' c₀ R := e_code hc x
  clear x
  subst hc
  revert h; show pG (sk X e) = _ → WO _ _ _ _ _ _ (sk X e) _ _
  generalize sk X e = s
  intro h
  cases s with
  | pure fin =>
    cases fin with
    | done f => cases h
    | again => cases Option.some.inj h; exact e_again hq y
  | _ => cases h
theorem f_pureB {A' : Around} {E' : Value → Shared → Prop} {a : β} {f : β → Sem α} {e : Sem β} (h : pP (sk X e) = some a) (x : WO X tb own c t A (f a) Q E) : WO X tb own c t A' e (QB X A f Q E) E' := by
  refine e_sk 400 ?_
  revert h; show pP (sk X e) = _ → WO _ _ _ _ _ _ (sk X e) _ _
  generalize sk X e = s
  intro h
  cases s with
  | pure v => cases Option.some.inj h; exact e_pureB x
  | _ => cases h
theorem f_end {a : α} (h : pP (sk X e) = some a) (x : ∀ h, Own3 X tb own c h → Q a ⟨h, X.g, X.d, t, X.os⟩) : WO X tb own c t A e Q E := by
  refine e_sk 400 ?_
  revert h; show pP (sk X e) = _ → WO _ _ _ _ _ _ (sk X e) _ _
  generalize sk X e = s
  intro h
  cases s with
  | pure v => cases Option.some.inj h; exact e_end x
  | _ => cases h
end
/-! one step told by its tree's part; the tree itself is checked by the kernel alone -/
local macro_rules | `(tactic| wtm_at "mine q_al") => `(tactic| ((with_reducible refine' f_alloc ?h ?ho ?hf ?h97 ?hc ?_); (case h => exact rfl); (case ho => wtm_at "mine n_obj"); (case hf => exact rfl); (case h97 => exact rfl); (case hc => wtm_at "mine n_w")))
local macro_rules | `(tactic| wtm_at "mine q_upr") => `(tactic| ((case h => kernel_rfl); (case ho => exact rfl); (case hf => exact rfl); (case hn => wtm_at "mine n_obj"); (case hr => exact rfl)))
local macro_rules | `(tactic| wtm_at "mine q_fr") => `(tactic| ((with_reducible refine' f_fresh ?h ?_); (case h => kernel_rfl)))
local macro_rules | `(tactic| wtm_at "mine q_cc") => `(tactic| ((with_reducible refine' f_call ?h ?hc ?_); (case h => exact rfl); (case hc => wtm_at "mine n_code")))
local macro_rules | `(tactic| wtm_at "mine q_dn") => `(tactic| ((with_reducible refine' f_done ?h ?_); (case h => exact rfl)))
local macro_rules | `(tactic| wtm_at "mine q_ag") => `(tactic| ((with_reducible refine' f_again ?h ?hc ?hq ?_); (case h => exact rfl); (case hc => wtm_at "mine n_code"); (case hq => kernel_rfl!)))
local macro_rules | `(tactic| wtm_at "mine q_pu") => `(tactic| ((with_reducible refine' f_pureB ?h ?_); (case h => exact rfl)))
/-- the tree as it stands, written out -/
local macro_rules | `(tactic| wtm_at "mine ck") => `(tactic| ((try (conv => arg 7; arg 1; whnf)); (try (with_reducible (conv => arg 7; whnf)))))
local macro_rules | `(tactic| wtm_at "mine q_st") => `(tactic| (refine e_sk 400 ?_; wtm_at "mine gw"; wtm_at "mine g_st"))
local macro_rules | `(tactic| wtm_at "mine q_hn") => `(tactic| (refine e_sk 400 ?_; wtm_at "mine gw"; (with_reducible refine' e_handled ?a ?_); (case a => wtm_at "mine g_ak")))
local macro_rules | `(tactic| wtm_at "mine q_bT") => `(tactic| (wtm_at "mine gw"; (with_reducible refine' e_brT ?e ?_); (case e => first | kernel_rfl! | exact elem_self)))
local macro_rules | `(tactic| wtm_at "mine q_bF") => `(tactic| (wtm_at "mine gw"; (with_reducible refine' e_brF ?e ?_); (case e => kernel_rfl!)))

section
open PySem.W.X
abbrev Pr := PySem.Challenge.pw_ij0010_02
def defBody : Stmt → List Stmt
  | .FunctionDef (body := b) .. => b
  | _ => []
def defArgs : Stmt → Arguments
  | .FunctionDef (args := b) .. => b
  | _ => default
def defScope : Stmt → Scope
  | .FunctionDef (scope := b) .. => b
  | _ => default
def clsB : Stmt → List Stmt
  | .ClassDef (body := b) .. => b
  | _ => []
def topStmt (i : Nat) : Stmt := (Pr.main.body[i]?).getD (.Pass default)
def bodyOf (n : Nat) : List Stmt := defBody (topStmt n)
/-! what the start heap holds, as far as it is looked at (printed by a tool) -/
noncomputable def zo0 (P : Params) : Obj := (Obj.mk (Value.type SZ.s14018661285674007319x4) (Option.none) (Data.dict (List.toArray [(DictEntry.mk (PyData.keyHash P (Str.ofString "__name__")) (Value.str (Str.ofString "__name__") 1) (Value.str (Str.ofString "builtins") 160)), (DictEntry.mk (PyData.keyHash P (Str.ofString "__doc__")) (Value.str (Str.ofString "__doc__") 2) (Value.builtin "builtins.__doc__:str#opaque")), (DictEntry.mk (PyData.keyHash P (Str.ofString "__package__")) (Value.str (Str.ofString "__package__") 3) (Value.builtin "builtins.__package__:str#opaque")), (DictEntry.mk (PyData.keyHash P (Str.ofString "__loader__")) (Value.str (Str.ofString "__loader__") 4) (Value.builtin "builtins.__loader__:shared#opaque")), (DictEntry.mk (PyData.keyHash P (Str.ofString "__spec__")) (Value.str (Str.ofString "__spec__") 5) (Value.builtin SZ.s11665532747177232413x24)), (DictEntry.mk (PyData.keyHash P (Str.ofString "__build_class__")) (Value.str (Str.ofString "__build_class__") 6) (Value.builtin SZ.s15183661809925369436x15)), (DictEntry.mk (PyData.keyHash P (Str.ofString "__import__")) (Value.str (Str.ofString "__import__") 7) (Value.builtin SZ.s13915890719876406383x10)), (DictEntry.mk (PyData.keyHash P (Str.ofString "abs")) (Value.str (Str.ofString "abs") 8) (Value.builtin SZ.s13459172003223722735x3)), (DictEntry.mk (PyData.keyHash P (Str.ofString "all")) (Value.str (Str.ofString "all") 9) (Value.builtin SZ.s10557405761357834076x3)), (DictEntry.mk (PyData.keyHash P (Str.ofString "any")) (Value.str (Str.ofString "any") 10) (Value.builtin SZ.s4233737765568776869x3)), (DictEntry.mk (PyData.keyHash P (Str.ofString "ascii")) (Value.str (Str.ofString "ascii") 11) (Value.builtin SZ.s2508922471967985374x5)), (DictEntry.mk (PyData.keyHash P (Str.ofString "bin")) (Value.str (Str.ofString "bin") 12) (Value.builtin SZ.s15574269061696679450x3)), (DictEntry.mk (PyData.keyHash P (Str.ofString "breakpoint")) (Value.str (Str.ofString "breakpoint") 13) (Value.builtin SZ.s6016482663378992977x10)), (DictEntry.mk (PyData.keyHash P (Str.ofString "callable")) (Value.str (Str.ofString "callable") 14) (Value.builtin SZ.s5596568736180474577x8)), (DictEntry.mk (PyData.keyHash P (Str.ofString "chr")) (Value.str (Str.ofString "chr") 15) (Value.builtin SZ.s2839554839881490554x3)), (DictEntry.mk (PyData.keyHash P (Str.ofString "compile")) (Value.str (Str.ofString "compile") 16) (Value.builtin SZ.s725004073602090463x7)), (DictEntry.mk (PyData.keyHash P (Str.ofString "delattr")) (Value.str (Str.ofString "delattr") 17) (Value.builtin SZ.s9436932552931045734x7)), (DictEntry.mk (PyData.keyHash P (Str.ofString "dir")) (Value.str (Str.ofString "dir") 18) (Value.builtin SZ.s2754603736356183583x3)), (DictEntry.mk (PyData.keyHash P (Str.ofString "divmod")) (Value.str (Str.ofString "divmod") 19) (Value.builtin SZ.s15185746759980889043x6)), (DictEntry.mk (PyData.keyHash P (Str.ofString "eval")) (Value.str (Str.ofString "eval") 20) (Value.builtin SZ.s8192189862530294059x4)), (DictEntry.mk (PyData.keyHash P (Str.ofString "exec")) (Value.str (Str.ofString "exec") 21) (Value.builtin SZ.s7038307821325472102x4)), (DictEntry.mk (PyData.keyHash P (Str.ofString "format")) (Value.str (Str.ofString "format") 22) (Value.builtin SZ.s5662562618415449548x6)), (DictEntry.mk (PyData.keyHash P (Str.ofString "getattr")) (Value.str (Str.ofString "getattr") 23) (Value.builtin SZ.s15281542589158584767x7)), (DictEntry.mk (PyData.keyHash P (Str.ofString "globals")) (Value.str (Str.ofString "globals") 24) (Value.builtin SZ.s17651547275483570877x7)), (DictEntry.mk (PyData.keyHash P (Str.ofString "hasattr")) (Value.str (Str.ofString "hasattr") 25) (Value.builtin SZ.s4036449017235975746x7)), (DictEntry.mk (PyData.keyHash P (Str.ofString "hash")) (Value.str (Str.ofString "hash") 26) (Value.builtin SZ.s8879979712987360175x4)), (DictEntry.mk (PyData.keyHash P (Str.ofString "hex")) (Value.str (Str.ofString "hex") 27) (Value.builtin SZ.s1801250619170735830x3)), (DictEntry.mk (PyData.keyHash P (Str.ofString "id")) (Value.str (Str.ofString "id") 28) (Value.builtin SZ.s17659931425627118568x2)), (DictEntry.mk (PyData.keyHash P (Str.ofString "input")) (Value.str (Str.ofString "input") 29) (Value.builtin SZ.s6063217899685152688x5)), (DictEntry.mk (PyData.keyHash P (Str.ofString "isinstance")) (Value.str (Str.ofString "isinstance") 30) (Value.builtin SZ.s8008927332132565319x10)), (DictEntry.mk (PyData.keyHash P (Str.ofString "issubclass")) (Value.str (Str.ofString "issubclass") 31) (Value.builtin SZ.s3544116645089599534x10)), (DictEntry.mk (PyData.keyHash P (Str.ofString "iter")) (Value.str (Str.ofString "iter") 32) (Value.builtin SZ.s13761710972054866084x4)), (DictEntry.mk (PyData.keyHash P (Str.ofString "aiter")) (Value.str (Str.ofString "aiter") 33) (Value.builtin SZ.s12896375587409280029x5)), (DictEntry.mk (PyData.keyHash P (Str.ofString "len")) (Value.str (Str.ofString "len") 34) (Value.builtin SZ.s13014049009108672802x3)), (DictEntry.mk (PyData.keyHash P (Str.ofString "locals")) (Value.str (Str.ofString "locals") 35) (Value.builtin SZ.s13935586738268321596x6)), (DictEntry.mk (PyData.keyHash P (Str.ofString "max")) (Value.str (Str.ofString "max") 36) (Value.builtin SZ.s8200498257699607233x3)), (DictEntry.mk (PyData.keyHash P (Str.ofString "min")) (Value.str (Str.ofString "min") 37) (Value.builtin SZ.s14114244577727609259x3)), (DictEntry.mk (PyData.keyHash P (Str.ofString "next")) (Value.str (Str.ofString "next") 38) (Value.builtin SZ.s1499430450269397089x4)), (DictEntry.mk (PyData.keyHash P (Str.ofString "anext")) (Value.str (Str.ofString "anext") 39) (Value.builtin SZ.s8755793994789770505x5)), (DictEntry.mk (PyData.keyHash P (Str.ofString "oct")) (Value.str (Str.ofString "oct") 40) (Value.builtin SZ.s15725212667919936108x3)), (DictEntry.mk (PyData.keyHash P (Str.ofString "ord")) (Value.str (Str.ofString "ord") 41) (Value.builtin SZ.s15791221867095933363x3)), (DictEntry.mk (PyData.keyHash P (Str.ofString "pow")) (Value.str (Str.ofString "pow") 42) (Value.builtin SZ.s81309575031448614x3)), (DictEntry.mk (PyData.keyHash P (Str.ofString "print")) (Value.str (Str.ofString "print") 43) (Value.builtin SZ.s8069831620301644142x5)), (DictEntry.mk (PyData.keyHash P (Str.ofString "repr")) (Value.str (Str.ofString "repr") 44) (Value.builtin SZ.s10061844253413749634x4)), (DictEntry.mk (PyData.keyHash P (Str.ofString "round")) (Value.str (Str.ofString "round") 45) (Value.builtin SZ.s9496514870978017513x5)), (DictEntry.mk (PyData.keyHash P (Str.ofString "setattr")) (Value.str (Str.ofString "setattr") 46) (Value.builtin SZ.s8899691144933366716x7)), (DictEntry.mk (PyData.keyHash P (Str.ofString "sorted")) (Value.str (Str.ofString "sorted") 47) (Value.builtin SZ.s15201008993051130160x6)), (DictEntry.mk (PyData.keyHash P (Str.ofString "sum")) (Value.str (Str.ofString "sum") 48) (Value.builtin SZ.s741896355592496720x3)), (DictEntry.mk (PyData.keyHash P (Str.ofString "vars")) (Value.str (Str.ofString "vars") 49) (Value.builtin SZ.s17925004256654032244x4)), (DictEntry.mk (PyData.keyHash P (Str.ofString "None")) (Value.str (Str.ofString "None") 50) Value.none), (DictEntry.mk (PyData.keyHash P (Str.ofString "Ellipsis")) (Value.str (Str.ofString "Ellipsis") 51) Value.ellipsis), (DictEntry.mk (PyData.keyHash P (Str.ofString "NotImplemented")) (Value.str (Str.ofString "NotImplemented") 52) Value.notImplemented), (DictEntry.mk (PyData.keyHash P (Str.ofString "False")) (Value.str (Str.ofString "False") 53) (Value.bool Bool.false)), (DictEntry.mk (PyData.keyHash P (Str.ofString "True")) (Value.str (Str.ofString "True") 54) (Value.bool Bool.true)), (DictEntry.mk (PyData.keyHash P (Str.ofString "bool")) (Value.str (Str.ofString "bool") 55) (Value.type SZ.s11695548795398191787x4)), (DictEntry.mk (PyData.keyHash P (Str.ofString "memoryview")) (Value.str (Str.ofString "memoryview") 56) (Value.type SZ.s4156966113859768872x10)), (DictEntry.mk (PyData.keyHash P (Str.ofString "bytearray")) (Value.str (Str.ofString "bytearray") 57) (Value.type SZ.s9501651726347032510x9)), (DictEntry.mk (PyData.keyHash P (Str.ofString "bytes")) (Value.str (Str.ofString "bytes") 58) (Value.type SZ.s15722918466584999320x5)), (DictEntry.mk (PyData.keyHash P (Str.ofString "classmethod")) (Value.str (Str.ofString "classmethod") 59) (Value.type SZ.s591115383303110208x11)), (DictEntry.mk (PyData.keyHash P (Str.ofString "complex")) (Value.str (Str.ofString "complex") 60) (Value.type SZ.s15721156781594690315x7)), (DictEntry.mk (PyData.keyHash P (Str.ofString "dict")) (Value.str (Str.ofString "dict") 61) (Value.type SZ.s14018661285674007319x4)), (DictEntry.mk (PyData.keyHash P (Str.ofString "enumerate")) (Value.str (Str.ofString "enumerate") 62) (Value.type SZ.s14340494229221121180x9)), (DictEntry.mk (PyData.keyHash P (Str.ofString "filter")) (Value.str (Str.ofString "filter") 63) (Value.type SZ.s13429844117177748173x6)), (DictEntry.mk (PyData.keyHash P (Str.ofString "float")) (Value.str (Str.ofString "float") 64) (Value.type SZ.s16463266125957815391x5)), (DictEntry.mk (PyData.keyHash P (Str.ofString "frozenset")) (Value.str (Str.ofString "frozenset") 65) (Value.type SZ.s4922535414793169389x9)), (DictEntry.mk (PyData.keyHash P (Str.ofString "property")) (Value.str (Str.ofString "property") 66) (Value.type SZ.s8101838861749082086x8)), (DictEntry.mk (PyData.keyHash P (Str.ofString "int")) (Value.str (Str.ofString "int") 67) (Value.type SZ.s7066276694103001551x3)), (DictEntry.mk (PyData.keyHash P (Str.ofString "list")) (Value.str (Str.ofString "list") 68) (Value.type SZ.s9222952809800978799x4)), (DictEntry.mk (PyData.keyHash P (Str.ofString "map")) (Value.str (Str.ofString "map") 69) (Value.type SZ.s462964344163437139x3)), (DictEntry.mk (PyData.keyHash P (Str.ofString "object")) (Value.str (Str.ofString "object") 70) (Value.type SZ.s2742458400755230247x6)), (DictEntry.mk (PyData.keyHash P (Str.ofString "range")) (Value.str (Str.ofString "range") 71) (Value.type SZ.s1438033511350832697x5)), (DictEntry.mk (PyData.keyHash P (Str.ofString "reversed")) (Value.str (Str.ofString "reversed") 72) (Value.type SZ.s14365286008749172514x8)), (DictEntry.mk (PyData.keyHash P (Str.ofString "set")) (Value.str (Str.ofString "set") 73) (Value.type SZ.s3642769012341782148x3)), (DictEntry.mk (PyData.keyHash P (Str.ofString "slice")) (Value.str (Str.ofString "slice") 74) (Value.type SZ.s4674234679698826739x5)), (DictEntry.mk (PyData.keyHash P (Str.ofString "staticmethod")) (Value.str (Str.ofString "staticmethod") 75) (Value.type SZ.s16656946322747308186x12)), (DictEntry.mk (PyData.keyHash P (Str.ofString "str")) (Value.str (Str.ofString "str") 76) (Value.type SZ.s10796804682411823810x3)), (DictEntry.mk (PyData.keyHash P (Str.ofString "super")) (Value.str (Str.ofString "super") 77) (Value.type SZ.s4290257624100764138x5)), (DictEntry.mk (PyData.keyHash P (Str.ofString "tuple")) (Value.str (Str.ofString "tuple") 78) (Value.type SZ.s2766695959194262286x5)), (DictEntry.mk (PyData.keyHash P (Str.ofString "type")) (Value.str (Str.ofString "type") 79) (Value.type SZ.s17162191345867700912x4)), (DictEntry.mk (PyData.keyHash P (Str.ofString "zip")) (Value.str (Str.ofString "zip") 80) (Value.type SZ.s14339709457334898076x3)), (DictEntry.mk (PyData.keyHash P (Str.ofString "__debug__")) (Value.str (Str.ofString "__debug__") 81) (Value.bool Bool.true)), (DictEntry.mk (PyData.keyHash P (Str.ofString "BaseException")) (Value.str (Str.ofString "BaseException") 82) (Value.type SZ.s4278001404047624695x13)), (DictEntry.mk (PyData.keyHash P (Str.ofString "BaseExceptionGroup")) (Value.str (Str.ofString "BaseExceptionGroup") 83) (Value.type SZ.s6585700554429387442x18)), (DictEntry.mk (PyData.keyHash P (Str.ofString "Exception")) (Value.str (Str.ofString "Exception") 84) (Value.type SZ.s5946037652744460706x9)), (DictEntry.mk (PyData.keyHash P (Str.ofString "GeneratorExit")) (Value.str (Str.ofString "GeneratorExit") 85) (Value.type SZ.s7410770068591931388x13)), (DictEntry.mk (PyData.keyHash P (Str.ofString "KeyboardInterrupt")) (Value.str (Str.ofString "KeyboardInterrupt") 86) (Value.type SZ.s11817881795495490833x17)), (DictEntry.mk (PyData.keyHash P (Str.ofString "SystemExit")) (Value.str (Str.ofString "SystemExit") 87) (Value.type SZ.s15679963881808890155x10)), (DictEntry.mk (PyData.keyHash P (Str.ofString "ArithmeticError")) (Value.str (Str.ofString "ArithmeticError") 88) (Value.type SZ.s3871700062485845797x15)), (DictEntry.mk (PyData.keyHash P (Str.ofString "AssertionError")) (Value.str (Str.ofString "AssertionError") 89) (Value.type SZ.s7689518266570723881x14)), (DictEntry.mk (PyData.keyHash P (Str.ofString "AttributeError")) (Value.str (Str.ofString "AttributeError") 90) (Value.type SZ.s9001593270443806431x14)), (DictEntry.mk (PyData.keyHash P (Str.ofString "BufferError")) (Value.str (Str.ofString "BufferError") 91) (Value.type SZ.s6882542574934516792x11)), (DictEntry.mk (PyData.keyHash P (Str.ofString "EOFError")) (Value.str (Str.ofString "EOFError") 92) (Value.type SZ.s14403400214490484960x8)), (DictEntry.mk (PyData.keyHash P (Str.ofString "ImportError")) (Value.str (Str.ofString "ImportError") 93) (Value.type SZ.s14457978657717015782x11)), (DictEntry.mk (PyData.keyHash P (Str.ofString "LookupError")) (Value.str (Str.ofString "LookupError") 94) (Value.type SZ.s1753610191782819921x11)), (DictEntry.mk (PyData.keyHash P (Str.ofString "MemoryError")) (Value.str (Str.ofString "MemoryError") 95) (Value.type SZ.s14119380538032626715x11)), (DictEntry.mk (PyData.keyHash P (Str.ofString "NameError")) (Value.str (Str.ofString "NameError") 96) (Value.type SZ.s11437920000406562045x9)), (DictEntry.mk (PyData.keyHash P (Str.ofString "OSError")) (Value.str (Str.ofString "OSError") 97) (Value.type SZ.s10852414792293593619x7)), (DictEntry.mk (PyData.keyHash P (Str.ofString "ReferenceError")) (Value.str (Str.ofString "ReferenceError") 98) (Value.type SZ.s14816307405966870543x14)), (DictEntry.mk (PyData.keyHash P (Str.ofString "RuntimeError")) (Value.str (Str.ofString "RuntimeError") 99) (Value.type SZ.s8682627914449686677x12)), (DictEntry.mk (PyData.keyHash P (Str.ofString "StopAsyncIteration")) (Value.str (Str.ofString "StopAsyncIteration") 100) (Value.type SZ.s4428170145600203450x18)), (DictEntry.mk (PyData.keyHash P (Str.ofString "StopIteration")) (Value.str (Str.ofString "StopIteration") 101) (Value.type SZ.s5991306692159431302x13)), (DictEntry.mk (PyData.keyHash P (Str.ofString "SyntaxError")) (Value.str (Str.ofString "SyntaxError") 102) (Value.type SZ.s16067994140765818257x11)), (DictEntry.mk (PyData.keyHash P (Str.ofString "SystemError")) (Value.str (Str.ofString "SystemError") 103) (Value.type SZ.s2327743974964600596x11)), (DictEntry.mk (PyData.keyHash P (Str.ofString "TypeError")) (Value.str (Str.ofString "TypeError") 104) (Value.type SZ.s2804747833354056582x9)), (DictEntry.mk (PyData.keyHash P (Str.ofString "ValueError")) (Value.str (Str.ofString "ValueError") 105) (Value.type SZ.s6070975301684473832x10)), (DictEntry.mk (PyData.keyHash P (Str.ofString "Warning")) (Value.str (Str.ofString "Warning") 106) (Value.type SZ.s14270485950484850486x7)), (DictEntry.mk (PyData.keyHash P (Str.ofString "FloatingPointError")) (Value.str (Str.ofString "FloatingPointError") 107) (Value.type SZ.s12041534306414923332x18)), (DictEntry.mk (PyData.keyHash P (Str.ofString "OverflowError")) (Value.str (Str.ofString "OverflowError") 108) (Value.type SZ.s2531307568338490285x13)), (DictEntry.mk (PyData.keyHash P (Str.ofString "ZeroDivisionError")) (Value.str (Str.ofString "ZeroDivisionError") 109) (Value.type SZ.s631175304937289666x17)), (DictEntry.mk (PyData.keyHash P (Str.ofString "BytesWarning")) (Value.str (Str.ofString "BytesWarning") 110) (Value.type SZ.s5144983644357021410x12)), (DictEntry.mk (PyData.keyHash P (Str.ofString "DeprecationWarning")) (Value.str (Str.ofString "DeprecationWarning") 111) (Value.type SZ.s18039099521571816885x18)), (DictEntry.mk (PyData.keyHash P (Str.ofString "EncodingWarning")) (Value.str (Str.ofString "EncodingWarning") 112) (Value.type SZ.s6011586214260557989x15)), (DictEntry.mk (PyData.keyHash P (Str.ofString "FutureWarning")) (Value.str (Str.ofString "FutureWarning") 113) (Value.type SZ.s5430567037509283100x13)), (DictEntry.mk (PyData.keyHash P (Str.ofString "ImportWarning")) (Value.str (Str.ofString "ImportWarning") 114) (Value.type SZ.s8117915138073963741x13)), (DictEntry.mk (PyData.keyHash P (Str.ofString "PendingDeprecationWarning")) (Value.str (Str.ofString "PendingDeprecationWarning") 115) (Value.type SZ.s3423317712779056401x25)), (DictEntry.mk (PyData.keyHash P (Str.ofString "ResourceWarning")) (Value.str (Str.ofString "ResourceWarning") 116) (Value.type SZ.s2007317383269046180x15)), (DictEntry.mk (PyData.keyHash P (Str.ofString "RuntimeWarning")) (Value.str (Str.ofString "RuntimeWarning") 117) (Value.type SZ.s17481586968713580700x14)), (DictEntry.mk (PyData.keyHash P (Str.ofString "SyntaxWarning")) (Value.str (Str.ofString "SyntaxWarning") 118) (Value.type SZ.s2450899226349176912x13)), (DictEntry.mk (PyData.keyHash P (Str.ofString "UnicodeWarning")) (Value.str (Str.ofString "UnicodeWarning") 119) (Value.type SZ.s16626165730633575011x14)), (DictEntry.mk (PyData.keyHash P (Str.ofString "UserWarning")) (Value.str (Str.ofString "UserWarning") 120) (Value.type SZ.s14288496050688921416x11)), (DictEntry.mk (PyData.keyHash P (Str.ofString "BlockingIOError")) (Value.str (Str.ofString "BlockingIOError") 121) (Value.type SZ.s5735081916595925998x15)), (DictEntry.mk (PyData.keyHash P (Str.ofString "ChildProcessError")) (Value.str (Str.ofString "ChildProcessError") 122) (Value.type SZ.s3865607918536308442x17)), (DictEntry.mk (PyData.keyHash P (Str.ofString "ConnectionError")) (Value.str (Str.ofString "ConnectionError") 123) (Value.type SZ.s13337502604062700212x15)), (DictEntry.mk (PyData.keyHash P (Str.ofString "FileExistsError")) (Value.str (Str.ofString "FileExistsError") 124) (Value.type SZ.s13114017843053701147x15)), (DictEntry.mk (PyData.keyHash P (Str.ofString "FileNotFoundError")) (Value.str (Str.ofString "FileNotFoundError") 125) (Value.type SZ.s17467278006356818441x17)), (DictEntry.mk (PyData.keyHash P (Str.ofString "InterruptedError")) (Value.str (Str.ofString "InterruptedError") 126) (Value.type SZ.s17722149559621369488x16)), (DictEntry.mk (PyData.keyHash P (Str.ofString "IsADirectoryError")) (Value.str (Str.ofString "IsADirectoryError") 127) (Value.type SZ.s7855274175708717672x17)), (DictEntry.mk (PyData.keyHash P (Str.ofString "NotADirectoryError")) (Value.str (Str.ofString "NotADirectoryError") 128) (Value.type SZ.s13351283678309829046x18)), (DictEntry.mk (PyData.keyHash P (Str.ofString "PermissionError")) (Value.str (Str.ofString "PermissionError") 129) (Value.type SZ.s6668348653404991179x15)), (DictEntry.mk (PyData.keyHash P (Str.ofString "ProcessLookupError")) (Value.str (Str.ofString "ProcessLookupError") 130) (Value.type SZ.s12913350958174193794x18)), (DictEntry.mk (PyData.keyHash P (Str.ofString "TimeoutError")) (Value.str (Str.ofString "TimeoutError") 131) (Value.type SZ.s16115879512475548326x12)), (DictEntry.mk (PyData.keyHash P (Str.ofString "IndentationError")) (Value.str (Str.ofString "IndentationError") 132) (Value.type SZ.s15920661018069861047x16)), (DictEntry.mk (PyData.keyHash P (Str.ofString "_IncompleteInputError")) (Value.str (Str.ofString "_IncompleteInputError") 133) (Value.type SZ.s10779130036587390575x21)), (DictEntry.mk (PyData.keyHash P (Str.ofString "IndexError")) (Value.str (Str.ofString "IndexError") 134) (Value.type SZ.s7801419657504700863x10)), (DictEntry.mk (PyData.keyHash P (Str.ofString "KeyError")) (Value.str (Str.ofString "KeyError") 135) (Value.type SZ.s1688129525768580628x8)), (DictEntry.mk (PyData.keyHash P (Str.ofString "ModuleNotFoundError")) (Value.str (Str.ofString "ModuleNotFoundError") 136) (Value.type SZ.s1031832959479892071x19)), (DictEntry.mk (PyData.keyHash P (Str.ofString "NotImplementedError")) (Value.str (Str.ofString "NotImplementedError") 137) (Value.type SZ.s8991790508128307865x19)), (DictEntry.mk (PyData.keyHash P (Str.ofString "PythonFinalizationError")) (Value.str (Str.ofString "PythonFinalizationError") 138) (Value.type SZ.s14539662485746970245x23)), (DictEntry.mk (PyData.keyHash P (Str.ofString "RecursionError")) (Value.str (Str.ofString "RecursionError") 139) (Value.type SZ.s11643622729373238714x14)), (DictEntry.mk (PyData.keyHash P (Str.ofString "UnboundLocalError")) (Value.str (Str.ofString "UnboundLocalError") 140) (Value.type SZ.s3386828779285465597x17)), (DictEntry.mk (PyData.keyHash P (Str.ofString "UnicodeError")) (Value.str (Str.ofString "UnicodeError") 141) (Value.type SZ.s13042696260734638735x12)), (DictEntry.mk (PyData.keyHash P (Str.ofString "BrokenPipeError")) (Value.str (Str.ofString "BrokenPipeError") 142) (Value.type SZ.s18239426817015966623x15)), (DictEntry.mk (PyData.keyHash P (Str.ofString "ConnectionAbortedError")) (Value.str (Str.ofString "ConnectionAbortedError") 143) (Value.type SZ.s1270395311379034370x22)), (DictEntry.mk (PyData.keyHash P (Str.ofString "ConnectionRefusedError")) (Value.str (Str.ofString "ConnectionRefusedError") 144) (Value.type SZ.s10696252587037064777x22)), (DictEntry.mk (PyData.keyHash P (Str.ofString "ConnectionResetError")) (Value.str (Str.ofString "ConnectionResetError") 145) (Value.type SZ.s7852717498200857586x20)), (DictEntry.mk (PyData.keyHash P (Str.ofString "TabError")) (Value.str (Str.ofString "TabError") 146) (Value.type SZ.s6377248116197321094x8)), (DictEntry.mk (PyData.keyHash P (Str.ofString "UnicodeDecodeError")) (Value.str (Str.ofString "UnicodeDecodeError") 147) (Value.type SZ.s3834378056692298002x18)), (DictEntry.mk (PyData.keyHash P (Str.ofString "UnicodeEncodeError")) (Value.str (Str.ofString "UnicodeEncodeError") 148) (Value.type SZ.s17586630440231065808x18)), (DictEntry.mk (PyData.keyHash P (Str.ofString "UnicodeTranslateError")) (Value.str (Str.ofString "UnicodeTranslateError") 149) (Value.type SZ.s15234114252648025395x21)), (DictEntry.mk (PyData.keyHash P (Str.ofString "ExceptionGroup")) (Value.str (Str.ofString "ExceptionGroup") 150) (Value.type SZ.s8496462677383758984x14)), (DictEntry.mk (PyData.keyHash P (Str.ofString "EnvironmentError")) (Value.str (Str.ofString "EnvironmentError") 151) (Value.type SZ.s10852414792293593619x7)), (DictEntry.mk (PyData.keyHash P (Str.ofString "IOError")) (Value.str (Str.ofString "IOError") 152) (Value.type SZ.s10852414792293593619x7)), (DictEntry.mk (PyData.keyHash P (Str.ofString "open")) (Value.str (Str.ofString "open") 153) (Value.builtin SZ.s16789243406116112673x4)), (DictEntry.mk (PyData.keyHash P (Str.ofString "quit")) (Value.str (Str.ofString "quit") 154) (Value.builtin SZ.s14400166428656793546x20)), (DictEntry.mk (PyData.keyHash P (Str.ofString "exit")) (Value.str (Str.ofString "exit") 155) (Value.builtin SZ.s5857708277339239366x20)), (DictEntry.mk (PyData.keyHash P (Str.ofString "copyright")) (Value.str (Str.ofString "copyright") 156) (Value.builtin "builtins.copyright#opaque")), (DictEntry.mk (PyData.keyHash P (Str.ofString "credits")) (Value.str (Str.ofString "credits") 157) (Value.builtin "builtins.credits#opaque")), (DictEntry.mk (PyData.keyHash P (Str.ofString "license")) (Value.str (Str.ofString "license") 158) (Value.builtin "builtins.license#opaque")), (DictEntry.mk (PyData.keyHash P (Str.ofString "help")) (Value.str (Str.ofString "help") 159) (Value.builtin SZ.s7804999707787243718x20))]) 159) (List.toArray []))
noncomputable def zo2 (_ : Params) : Obj := (Obj.mk Value.none (Option.none) (Data.dict (List.toArray []) 0) (List.toArray []))
noncomputable def zo3 (P : Params) : Obj := (Obj.mk (Value.type SZ.s14018661285674007319x4) (Option.none) (Data.dict (List.toArray [(DictEntry.mk (PyData.keyHash P (Str.ofString "__name__")) (Value.str (Str.ofString "__name__") 165) (Value.str (Str.ofString "law_ij0010_02") 226)), (DictEntry.mk (PyData.keyHash P (Str.ofString "__doc__")) (Value.str (Str.ofString "__doc__") 166) Value.none), (DictEntry.mk (PyData.keyHash P (Str.ofString "__package__")) (Value.str (Str.ofString "__package__") 167) Value.none), (DictEntry.mk (PyData.keyHash P (Str.ofString "__loader__")) (Value.str (Str.ofString "__loader__") 168) (Value.builtin SZ.s7097527257260152453x26)), (DictEntry.mk (PyData.keyHash P (Str.ofString "__spec__")) (Value.str (Str.ofString "__spec__") 169) Value.none), (DictEntry.mk (PyData.keyHash P (Str.ofString "__annotations__")) (Value.str (Str.ofString "__annotations__") 170) (Value.ref 6)), (DictEntry.mk (PyData.keyHash P (Str.ofString "__builtins__")) (Value.str (Str.ofString "__builtins__") 171) (Value.ref 4)), (DictEntry.mk (PyData.keyHash P (Str.ofString "__file__")) (Value.str (Str.ofString "__file__") 173) (Value.str (Str.ofString "/claim/cut.py") 172)), (DictEntry.mk (PyData.keyHash P (Str.ofString "__cached__")) (Value.str (Str.ofString "__cached__") 174) Value.none), (DictEntry.mk (PyData.keyHash P (Str.ofString "cmp_to_key")) (Value.str (Str.ofString "cmp_to_key") 197) (Value.ref 21)), (DictEntry.mk (PyData.keyHash P (Str.ofString "_initial_missing")) (Value.str (Str.ofString "_initial_missing") 198) (Value.ref 22)), (DictEntry.mk (PyData.keyHash P (Str.ofString "reduce")) (Value.str (Str.ofString "reduce") 210) (Value.ref 30)), (DictEntry.mk (PyData.keyHash P (Str.ofString "search_reverse")) (Value.str (Str.ofString "search_reverse") 225) (Value.ref 37)), (DictEntry.mk (PyData.keyHash P (Str.ofString "_law_hit")) (Value.str (Str.ofString "_law_hit") 239) (Value.ref 44)), (DictEntry.mk (PyData.keyHash P (Str.ofString "_law_program")) (Value.str (Str.ofString "_law_program") 247) (Value.ref 51)), (DictEntry.mk (PyData.keyHash P (Str.ofString "_law_dealt")) (Value.str (Str.ofString "_law_dealt") 260) (Value.ref 58)), (DictEntry.mk (PyData.keyHash P (Str.ofString "_law_later")) (Value.str (Str.ofString "_law_later") 268) (Value.ref 65)), (DictEntry.mk (PyData.keyHash P (Str.ofString "_law_end")) (Value.str (Str.ofString "_law_end") 275) (Value.ref 72)), (DictEntry.mk (PyData.keyHash P (Str.ofString "_law_step")) (Value.str (Str.ofString "_law_step") 285) (Value.ref 79)), (DictEntry.mk (PyData.keyHash P (Str.ofString "_law_fits")) (Value.str (Str.ofString "_law_fits") 294) (Value.ref 86)), (DictEntry.mk (PyData.keyHash P (Str.ofString "_law_greatest")) (Value.str (Str.ofString "_law_greatest") 300) (Value.ref 91)), (DictEntry.mk (PyData.keyHash P (Str.ofString "law")) (Value.str (Str.ofString "law") 310) (Value.ref 98))]) 22) (List.toArray []))
noncomputable def zo4 (_ : Params) : Obj := (Obj.mk (Value.type SZ.s6658869562736209489x6) (Option.some 0) Data.plain (List.toArray []))
noncomputable def zo16 (_ : Params) : Obj := (Obj.mk Value.none (Option.none) (Data.fields (List.toArray [])) (List.toArray []))
noncomputable def zo20 (_ : Params) : Obj := (Obj.mk (Value.type SZ.s5856160107412720595x4) (Option.none) (Data.fields (List.toArray [(Value.str (Str.ofString "cmp_to_key") 189), (Value.str (Str.ofString "cmp_to_key") 190), (Value.str (Str.ofString "/claim/cut.py") 191), (Value.int 2 0), (Value.int 1 0), (Value.int 0 0), (Value.int 0 0), (Value.int 3 0), (Value.ref 15), (Value.bool Bool.true), (Value.int 181 0), (Value.ref 16), Value.none, (Value.ref 17), (Value.ref 18), (Value.ref 19), (Value.int 195 0), (Value.int 2 0), (Value.str (Str.ofString "/claim/cut.py") 196)])) (List.toArray []))
noncomputable def zo21 (_ : Params) : Obj := (Obj.mk (Value.type SZ.s7174869446012820540x8) (Option.none) (Data.func (FuncData.mk (Str.ofString "cmp_to_key") (Str.ofString "cmp_to_key") (defArgs (topStmt 1)) (FuncBody.stmts (bodyOf 1)) (defScope (topStmt 1)) 3 [] Value.none Value.none Value.none (Value.str (Str.ofString "cpy313.functools") 187) (Option.none) (Value.ref 20) Value.none 0)) (List.toArray []))
noncomputable def zo22 (_ : Params) : Obj := (Obj.mk (Value.type SZ.s2742458400755230247x6) (Option.none) Data.plain (List.toArray []))
noncomputable def zo23 (_ : Params) : Obj := (Obj.mk (Value.type SZ.s2766695959194262286x5) (Option.none) (Data.seq (List.toArray [(Value.ref 22)]) 0) (List.toArray []))
noncomputable def zo29 (_ : Params) : Obj := (Obj.mk (Value.type SZ.s5856160107412720595x4) (Option.none) (Data.fields (List.toArray [(Value.str (Str.ofString "reduce") 199), (Value.str (Str.ofString "reduce") 200), (Value.str (Str.ofString "/claim/cut.py") 201), (Value.int 28 0), (Value.int 3 0), (Value.int 0 0), (Value.int 0 0), (Value.int 3 0), (Value.ref 24), (Value.bool Bool.true), (Value.int 181 0), (Value.ref 25), Value.none, (Value.ref 26), (Value.ref 27), (Value.ref 28), (Value.int 208 0), (Value.int 28 0), (Value.str (Str.ofString "/claim/cut.py") 209)])) (List.toArray []))
noncomputable def zo30 (_ : Params) : Obj := (Obj.mk (Value.type SZ.s7174869446012820540x8) (Option.none) (Data.func (FuncData.mk (Str.ofString "reduce") (Str.ofString "reduce") (defArgs (topStmt 3)) (FuncBody.stmts (bodyOf 3)) (defScope (topStmt 3)) 3 [] (Value.ref 23) Value.none Value.none (Value.str (Str.ofString "cpy313.functools") 187) (Option.none) (Value.ref 29) Value.none 0)) (List.toArray []))
noncomputable def zo36 (_ : Params) : Obj := (Obj.mk (Value.type SZ.s5856160107412720595x4) (Option.none) (Data.fields (List.toArray [(Value.str (Str.ofString "search_reverse") 213), (Value.str (Str.ofString "search_reverse") 214), (Value.str (Str.ofString "/claim/cut.py") 215), (Value.int 41 0), (Value.int 3 0), (Value.int 0 0), (Value.int 0 0), (Value.int 3 0), (Value.ref 31), (Value.bool Bool.true), (Value.int 181 0), (Value.ref 32), Value.none, (Value.ref 33), (Value.ref 34), (Value.ref 35), (Value.int 223 0), (Value.int 41 0), (Value.str (Str.ofString "/claim/cut.py") 224)])) (List.toArray []))
noncomputable def zo37 (_ : Params) : Obj := (Obj.mk (Value.type SZ.s7174869446012820540x8) (Option.none) (Data.func (FuncData.mk (Str.ofString "search_reverse") (Str.ofString "search_reverse") (defArgs (topStmt 5)) (FuncBody.stmts (bodyOf 5)) (defScope (topStmt 5)) 3 [] Value.none Value.none Value.none (Value.str (Str.ofString "cpy313.idlelib.searchengine") 211) (Option.none) (Value.ref 36) Value.none 0)) (List.toArray []))
noncomputable def zo39 (_ : Params) : Obj := (Obj.mk Value.none (Option.none) (Data.fields (List.toArray [])) (List.toArray []))
noncomputable def zo43 (_ : Params) : Obj := (Obj.mk (Value.type SZ.s5856160107412720595x4) (Option.none) (Data.fields (List.toArray [(Value.str (Str.ofString "_law_hit") 228), (Value.str (Str.ofString "_law_hit") 229), (Value.str (Str.ofString "/claim/cut.py") 230), (Value.int 57 0), (Value.int 3 0), (Value.int 0 0), (Value.int 0 0), (Value.int 3 0), (Value.ref 38), (Value.bool Bool.true), (Value.int 181 0), (Value.ref 39), Value.none, (Value.ref 40), (Value.ref 41), (Value.ref 42), (Value.int 237 0), (Value.int 57 0), (Value.str (Str.ofString "/claim/cut.py") 238)])) (List.toArray []))
noncomputable def zo44 (_ : Params) : Obj := (Obj.mk (Value.type SZ.s7174869446012820540x8) (Option.none) (Data.func (FuncData.mk (Str.ofString "_law_hit") (Str.ofString "_law_hit") (defArgs (topStmt 7)) (FuncBody.stmts (bodyOf 7)) (defScope (topStmt 7)) 3 [] Value.none Value.none Value.none (Value.str (Str.ofString "law_ij0010_02") 226) (Option.none) (Value.ref 43) Value.none 0)) (List.toArray []))
noncomputable def zo46 (_ : Params) : Obj := (Obj.mk Value.none (Option.none) (Data.fields (List.toArray [])) (List.toArray []))
noncomputable def zo50 (_ : Params) : Obj := (Obj.mk (Value.type SZ.s5856160107412720595x4) (Option.none) (Data.fields (List.toArray [(Value.str (Str.ofString "_law_program") 240), (Value.str (Str.ofString "_law_program") 241), (Value.str (Str.ofString "/claim/cut.py") 242), (Value.int 62 0), (Value.int 0 0), (Value.int 0 0), (Value.int 0 0), (Value.int 3 0), (Value.ref 45), (Value.bool Bool.true), (Value.int 181 0), (Value.ref 46), Value.none, (Value.ref 47), (Value.ref 48), (Value.ref 49), (Value.int 245 0), (Value.int 62 0), (Value.str (Str.ofString "/claim/cut.py") 246)])) (List.toArray []))
noncomputable def zo51 (_ : Params) : Obj := (Obj.mk (Value.type SZ.s7174869446012820540x8) (Option.none) (Data.func (FuncData.mk (Str.ofString "_law_program") (Str.ofString "_law_program") (defArgs (topStmt 8)) (FuncBody.stmts (bodyOf 8)) (defScope (topStmt 8)) 3 [] Value.none Value.none Value.none (Value.str (Str.ofString "law_ij0010_02") 226) (Option.none) (Value.ref 50) Value.none 0)) (List.toArray []))
noncomputable def zo57 (_ : Params) : Obj := (Obj.mk (Value.type SZ.s5856160107412720595x4) (Option.none) (Data.fields (List.toArray [(Value.str (Str.ofString "_law_dealt") 248), (Value.str (Str.ofString "_law_dealt") 249), (Value.str (Str.ofString "/claim/cut.py") 250), (Value.int 73 0), (Value.int 1 0), (Value.int 0 0), (Value.int 0 0), (Value.int 3 0), (Value.ref 52), (Value.bool Bool.true), (Value.int 181 0), (Value.ref 53), Value.none, (Value.ref 54), (Value.ref 55), (Value.ref 56), (Value.int 258 0), (Value.int 73 0), (Value.str (Str.ofString "/claim/cut.py") 259)])) (List.toArray []))
noncomputable def zo58 (_ : Params) : Obj := (Obj.mk (Value.type SZ.s7174869446012820540x8) (Option.none) (Data.func (FuncData.mk (Str.ofString "_law_dealt") (Str.ofString "_law_dealt") (defArgs (topStmt 9)) (FuncBody.stmts (bodyOf 9)) (defScope (topStmt 9)) 3 [] Value.none Value.none Value.none (Value.str (Str.ofString "law_ij0010_02") 226) (Option.none) (Value.ref 57) Value.none 0)) (List.toArray []))
noncomputable def zo64 (_ : Params) : Obj := (Obj.mk (Value.type SZ.s5856160107412720595x4) (Option.none) (Data.fields (List.toArray [(Value.str (Str.ofString "_law_later") 261), (Value.str (Str.ofString "_law_later") 262), (Value.str (Str.ofString "/claim/cut.py") 263), (Value.int 82 0), (Value.int 2 0), (Value.int 0 0), (Value.int 0 0), (Value.int 3 0), (Value.ref 59), (Value.bool Bool.true), (Value.int 181 0), (Value.ref 60), Value.none, (Value.ref 61), (Value.ref 62), (Value.ref 63), (Value.int 266 0), (Value.int 82 0), (Value.str (Str.ofString "/claim/cut.py") 267)])) (List.toArray []))
noncomputable def zo65 (_ : Params) : Obj := (Obj.mk (Value.type SZ.s7174869446012820540x8) (Option.none) (Data.func (FuncData.mk (Str.ofString "_law_later") (Str.ofString "_law_later") (defArgs (topStmt 10)) (FuncBody.stmts (bodyOf 10)) (defScope (topStmt 10)) 3 [] Value.none Value.none Value.none (Value.str (Str.ofString "law_ij0010_02") 226) (Option.none) (Value.ref 64) Value.none 0)) (List.toArray []))
noncomputable def zo71 (_ : Params) : Obj := (Obj.mk (Value.type SZ.s5856160107412720595x4) (Option.none) (Data.fields (List.toArray [(Value.str (Str.ofString "_law_end") 269), (Value.str (Str.ofString "_law_end") 270), (Value.str (Str.ofString "/claim/cut.py") 271), (Value.int 84 0), (Value.int 1 0), (Value.int 0 0), (Value.int 0 0), (Value.int 3 0), (Value.ref 66), (Value.bool Bool.true), (Value.int 181 0), (Value.ref 67), Value.none, (Value.ref 68), (Value.ref 69), (Value.ref 70), (Value.int 273 0), (Value.int 84 0), (Value.str (Str.ofString "/claim/cut.py") 274)])) (List.toArray []))
noncomputable def zo72 (_ : Params) : Obj := (Obj.mk (Value.type SZ.s7174869446012820540x8) (Option.none) (Data.func (FuncData.mk (Str.ofString "_law_end") (Str.ofString "_law_end") (defArgs (topStmt 11)) (FuncBody.stmts (bodyOf 11)) (defScope (topStmt 11)) 3 [] Value.none Value.none Value.none (Value.str (Str.ofString "law_ij0010_02") 226) (Option.none) (Value.ref 71) Value.none 0)) (List.toArray []))
noncomputable def zo74 (_ : Params) : Obj := (Obj.mk Value.none (Option.none) (Data.fields (List.toArray [])) (List.toArray []))
noncomputable def zo78 (_ : Params) : Obj := (Obj.mk (Value.type SZ.s5856160107412720595x4) (Option.none) (Data.fields (List.toArray [(Value.str (Str.ofString "_law_step") 276), (Value.str (Str.ofString "_law_step") 277), (Value.str (Str.ofString "/claim/cut.py") 278), (Value.int 86 0), (Value.int 1 0), (Value.int 0 0), (Value.int 0 0), (Value.int 3 0), (Value.ref 73), (Value.bool Bool.true), (Value.int 181 0), (Value.ref 74), Value.none, (Value.ref 75), (Value.ref 76), (Value.ref 77), (Value.int 283 0), (Value.int 86 0), (Value.str (Str.ofString "/claim/cut.py") 284)])) (List.toArray []))
noncomputable def zo79 (_ : Params) : Obj := (Obj.mk (Value.type SZ.s7174869446012820540x8) (Option.none) (Data.func (FuncData.mk (Str.ofString "_law_step") (Str.ofString "_law_step") (defArgs (topStmt 12)) (FuncBody.stmts (bodyOf 12)) (defScope (topStmt 12)) 3 [] Value.none Value.none Value.none (Value.str (Str.ofString "law_ij0010_02") 226) (Option.none) (Value.ref 78) Value.none 0)) (List.toArray []))
noncomputable def zo85 (_ : Params) : Obj := (Obj.mk (Value.type SZ.s5856160107412720595x4) (Option.none) (Data.fields (List.toArray [(Value.str (Str.ofString "_law_fits") 286), (Value.str (Str.ofString "_law_fits") 287), (Value.str (Str.ofString "/claim/cut.py") 288), (Value.int 96 0), (Value.int 2 0), (Value.int 0 0), (Value.int 0 0), (Value.int 3 0), (Value.ref 80), (Value.bool Bool.true), (Value.int 181 0), (Value.ref 81), Value.none, (Value.ref 82), (Value.ref 83), (Value.ref 84), (Value.int 292 0), (Value.int 96 0), (Value.str (Str.ofString "/claim/cut.py") 293)])) (List.toArray []))
noncomputable def zo86 (_ : Params) : Obj := (Obj.mk (Value.type SZ.s7174869446012820540x8) (Option.none) (Data.func (FuncData.mk (Str.ofString "_law_fits") (Str.ofString "_law_fits") (defArgs (topStmt 13)) (FuncBody.stmts (bodyOf 13)) (defScope (topStmt 13)) 3 [] Value.none Value.none Value.none (Value.str (Str.ofString "law_ij0010_02") 226) (Option.none) (Value.ref 85) Value.none 0)) (List.toArray []))
noncomputable def zo90 (_ : Params) : Obj := (Obj.mk (Value.type SZ.s5856160107412720595x4) (Option.none) (Data.fields (List.toArray [(Value.str (Str.ofString "_law_greatest") 295), (Value.str (Str.ofString "_law_greatest") 296), (Value.str (Str.ofString "/claim/cut.py") 297), (Value.int 101 0), (Value.int 1 0), (Value.int 0 0), (Value.int 0 0), (Value.int 3 0), (Value.ref 87), (Value.bool Bool.true), (Value.int 181 0), (Value.ref 88), Value.none, Value.none, Value.none, (Value.ref 89), (Value.int 298 0), (Value.int 101 0), (Value.str (Str.ofString "/claim/cut.py") 299)])) (List.toArray []))
noncomputable def zo91 (_ : Params) : Obj := (Obj.mk (Value.type SZ.s7174869446012820540x8) (Option.none) (Data.func (FuncData.mk (Str.ofString "_law_greatest") (Str.ofString "_law_greatest") (defArgs (topStmt 14)) (FuncBody.stmts (bodyOf 14)) (defScope (topStmt 14)) 3 [] Value.none Value.none Value.none (Value.str (Str.ofString "law_ij0010_02") 226) (Option.none) (Value.ref 90) Value.none 0)) (List.toArray []))
noncomputable def zo97 (_ : Params) : Obj := (Obj.mk (Value.type SZ.s5856160107412720595x4) (Option.none) (Data.fields (List.toArray [(Value.str (Str.ofString "law") 301), (Value.str (Str.ofString "law") 302), (Value.str (Str.ofString "/claim/cut.py") 303), (Value.int 109 0), (Value.int 1 0), (Value.int 0 0), (Value.int 0 0), (Value.int 3 0), (Value.ref 92), (Value.bool Bool.true), (Value.int 181 0), (Value.ref 93), Value.none, (Value.ref 94), (Value.ref 95), (Value.ref 96), (Value.int 308 0), (Value.int 109 0), (Value.str (Str.ofString "/claim/cut.py") 309)])) (List.toArray []))
noncomputable def zo98 (_ : Params) : Obj := (Obj.mk (Value.type SZ.s7174869446012820540x8) (Option.none) (Data.func (FuncData.mk (Str.ofString "law") (Str.ofString "law") (defArgs (topStmt 15)) (FuncBody.stmts (bodyOf 15)) (defScope (topStmt 15)) 3 [] Value.none Value.none Value.none (Value.str (Str.ofString "law_ij0010_02") 226) (Option.none) (Value.ref 97) Value.none 0)) (List.toArray []))
noncomputable def hp (P : Params) : Frag := [(0, zo0 P), (2, zo2 P), (3, zo3 P), (4, zo4 P), (16, zo16 P), (20, zo20 P), (21, zo21 P), (22, zo22 P), (23, zo23 P), (29, zo29 P), (30, zo30 P), (36, zo36 P), (37, zo37 P), (39, zo39 P), (43, zo43 P), (44, zo44 P), (46, zo46 P), (50, zo50 P), (51, zo51 P), (57, zo57 P), (58, zo58 P), (64, zo64 P), (65, zo65 P), (71, zo71 P), (72, zo72 P), (74, zo74 P), (78, zo78 P), (79, zo79 P), (85, zo85 P), (86, zo86 P), (90, zo90 P), (91, zo91 P), (97, zo97 P), (98, zo98 P)]
def hpAs : List Nat := [0, 2, 3, 4, 16, 20, 21, 22, 23, 29, 30, 36, 37, 39, 43, 44, 46, 50, 51, 57, 58, 64, 65, 71, 72, 74, 78, 79, 85, 86, 90, 91, 97, 98]
noncomputable def view : Program := { Pr with main := { Pr.main with body := [topStmt 1, topStmt 2, topStmt 5, topStmt 7, topStmt 8, topStmt 9, topStmt 10, topStmt 11, topStmt 12, topStmt 13, topStmt 14, topStmt 15] } }
abbrev Tb : List Addr := [39, 46, 74]
/-- what of the start heap may change: the tables, and that of cmp_to_key -/
abbrev KTb : List Addr := 16 :: Tb
theorem ktb {a : Addr} (t : a ∉ KTb) : a ∉ Tb := fun m => t (.tail _ m)
/-- the start heap, but for the code tables that grow -/
def KIn (P : Params) (h : Heap) : Prop := ∀ a o, (hp P).lookup a = some o → a ∉ KTb → h.get? a = some o
theorem KIn.keeps {P : Params} {h h' : Heap} (K : KIn P h) (k : ∀ b o, h.get? b = some o → b ∉ Tb → h'.get? b = some o) : KIn P h' :=
  fun a o e t => k a o (K a o e t) (ktb t)
theorem KIn.at {P : Params} {h : Heap} {a : Addr} {o : Obj} (K : KIn P h) (e : (hp P).lookup a = some o) (t : a ∉ KTb) : h.get? a = some o := K a o e t

end
/-! the heap as a frame knows it, whatever the law: plain facts -/
def At (h : Heap) (a : Addr) (d : Obj → Prop) : Prop := ∃ o, h.get? a = some o ∧ d o
abbrev Led := List (Addr × (Obj → Prop))
def dNs (m : Str → Option Value) (o : Obj) : Prop := ∃ es ep, o.data = .dict es ep ∧ StrKeys es ∧ ∀ n, nsFind es n = m n
def dCell (v : Option Value) (o : Obj) : Prop := o.data = .cell v
def dList (xs : List Value) (o : Obj) : Prop := ∃ n, o = { cls := .type "list", dict := none, data := .seq xs.toArray n, slots := #[] }
def dTup (xs : List Value) (o : Obj) : Prop := ∃ n, o = { cls := .type "tuple", dict := none, data := .seq xs.toArray n, slots := #[] }
def dLIt (l : Addr) (i : Nat) (o : Obj) : Prop := o.cls = .type "list_iterator" ∧ o.data = .fields #[.ref l, .int i 0]
def dObj (x : Obj) (o : Obj) : Prop := o = x
def dFields (c : String) (vs : List Value) (o : Obj) : Prop := o = { cls := .type c, dict := none, data := .fields vs.toArray, slots := #[] }
theorem At.ns {h : Heap} {a : Addr} {m : Str → Option Value} (x : At h a (dNs m)) : h.Ns a m := let ⟨o, e, es, ep, r⟩ := x; ⟨o, es, ep, e, r⟩
theorem At.of_ns {h : Heap} {a : Addr} {m : Str → Option Value} (x : h.Ns a m) : At h a (dNs m) := let ⟨o, es, ep, e, r⟩ := x; ⟨o, e, es, ep, r⟩
theorem At.cell {h : Heap} {a : Addr} {v : Option Value} (x : At h a (dCell v)) : h.IsCell a v := x
theorem At.list {h : Heap} {a : Addr} {xs : List Value} (x : At h a (dList xs)) : h.IsList a xs.toArray := let ⟨o, e, n, q⟩ := x; ⟨o, e, by rw [q], n, by rw [q]⟩
theorem At.tup {h : Heap} {a : Addr} {xs : List Value} (x : At h a (dTup xs)) : IsTup h a xs.toArray := let ⟨o, e, n, q⟩ := x; ⟨o, e, by rw [q], n, by rw [q]⟩
theorem At.lit {h : Heap} {a l : Addr} {i : Nat} (x : At h a (dLIt l i)) : h.IsListIter a l i := x
theorem At.lt {h : Heap} {a : Addr} {d : Obj → Prop} (x : At h a d) : a < h.objs.size := let ⟨_, e, _⟩ := x; Heap.lt_size e
theorem At.nn {h : Heap} {a : Addr} {d : Obj → Prop} (x : At h a d) : h.get? a ≠ none := let ⟨_, e, _⟩ := x; by rw [e]; exact fun q => nomatch q
/-- all of h stands in h' but what lies in T -/
def ExtT (T : List Addr) (h h' : Heap) : Prop := ∀ b o, h.get? b = some o → b ∉ T → h'.get? b = some o
theorem ExtT.refl (T : List Addr) (h : Heap) : ExtT T h h := fun _ _ e _ => e
theorem ExtT.trans {T : List Addr} {h₁ h₂ h₃ : Heap} (x : ExtT T h₁ h₂) (y : ExtT T h₂ h₃) : ExtT T h₁ h₃ := fun b o e q => y b o (x b o e q) q
theorem ExtT.all {T : List Addr} {h h' : Heap} (k : ∀ b o, h.get? b = some o → h'.get? b = some o) : ExtT T h h' := fun b o e _ => k b o e
theorem ExtT.push {T : List Addr} {h h' : Heap} (x : ExtT T h h') (o : Obj) : ExtT T h (h'.push o) := fun b o' e q => Heap.get?_push_of_some o (x b o' e q)
theorem At.ext {T : List Addr} {h h' : Heap} {a : Addr} {d : Obj → Prop} (x : At h a d) (k : ExtT T h h') (q : a ∉ T) : At h' a d := let ⟨o, e, r⟩ := x; ⟨o, k a o e q, r⟩
theorem At.keeps {h h' : Heap} {a : Addr} {d : Obj → Prop} (x : At h a d) (k : ∀ b o, h.get? b = some o → h'.get? b = some o) : At h' a d := let ⟨o, e, r⟩ := x; ⟨o, k a o e, r⟩
theorem At.same {h h' : Heap} {a b : Addr} {d : Obj → Prop} (x : At h a d) (k : Heap.SameBut b h h') (q : a ≠ b) : At h' a d := let ⟨o, e, r⟩ := x; ⟨o, (k.2 a q).trans e, r⟩
/-- a table of code objects, in whatever state: what it has for the places sp is a code of that name -/
abbrev Spec := List ((Nat × Nat) × Str)
def TabOk (T : List Addr) (h : Heap) (P : Addr) (sp : Spec) : Prop :=
  ∃ ps, h.get? P = some (tabObj ps) ∧ TriplesOk ps.toList ∧ ∀ e ∈ sp, ∀ (p : Pos) (cv : Value), p.line = e.1.1 → p.col = e.1.2 → codeAmong p ps.toList = some cv → ∃ c, cv = .ref c ∧ c ∉ T ∧ h.CodeRec cv e.2
theorem codeRec_ext {T : List Addr} {h h' : Heap} {c : Addr} {q : Str} (x : h.CodeRec (.ref c) q) (k : ExtT T h h') (hc : c ∉ T) : h'.CodeRec (.ref c) q := by
  obtain ⟨c', o, vs, t, e, g, r⟩ := x
  cases e
  exact ⟨c, o, vs, t, rfl, k _ _ g hc, r⟩
theorem TabOk.stays {T : List Addr} {h h' : Heap} {P : Addr} {sp : Spec} (x : TabOk T h P sp) (k : ExtT T h h') (e : ∀ o, h.get? P = some o → h'.get? P = some o) : TabOk T h' P sp := by
  obtain ⟨ps, a, b, c⟩ := x
  refine ⟨ps, e _ a, b, fun s hs p cv hl hc' hc => ?_⟩
  obtain ⟨c', rfl, hT, hr⟩ := c s hs p cv hl hc' hc
  exact ⟨c', rfl, hT, codeRec_ext hr k hT⟩
def TabsT (TS : List (Addr × Spec)) (T : List Addr) (h : Heap) : Prop := ∀ e ∈ TS, TabOk T h e.1 e.2
theorem TabsT.stays {TS : List (Addr × Spec)} {T : List Addr} {h h' : Heap} (hT : ∀ e ∈ TS, e.1 ∈ T) (x : TabsT TS T h) (k : ∀ b o, h.get? b = some o → b ∈ T → h'.get? b = some o) (k' : ExtT T h h') : TabsT TS T h' :=
  fun e he => (x e he).stays k' fun o ho => k _ o ho (hT e he)
inductive LMem (a : Addr) (d : Obj → Prop) : Led → Prop
  | head {r} : LMem a d ((a, d) :: r)
  | tail {p r} : LMem a d r → LMem a d (p :: r)
theorem LMem.mem {a : Addr} {d : Obj → Prop} : ∀ {l : Led}, LMem a d l → (a, d) ∈ l
  | _, .head => .head _
  | _, .tail u => .tail _ u.mem
theorem LMem.app {a : Addr} {d : Obj → Prop} {ys : Led} (h : LMem a d ys) : ∀ xs : Led, LMem a d (xs ++ ys)
  | [] => h
  | _ :: r => .tail (h.app r)
inductive LUp (a : Addr) (d d' : Obj → Prop) : Led → Led → Prop
  | head {r} : LUp a d d' ((a, d) :: r) ((a, d') :: r)
  | tail {p r r'} : LUp a d d' r r' → LUp a d d' (p :: r) (p :: r')
theorem LUp.mem {a : Addr} {d d' : Obj → Prop} : ∀ {l l' : Led}, LUp a d d' l l' → (a, d) ∈ l
  | _, _, .head => .head _
  | _, _, .tail u => .tail _ u.mem
theorem LUp.keys {a : Addr} {d d' : Obj → Prop} : ∀ {l l' : Led}, LUp a d d' l l' → l'.map (·.1) = l.map (·.1)
  | _, _, .head => rfl
  | _, _, .tail u => congrArg (_ :: ·) u.keys
theorem LUp.back {a : Addr} {d d' : Obj → Prop} : ∀ {l l' : Led}, LUp a d d' l l' → (l.map (·.1)).Nodup → ∀ p ∈ l', p = (a, d') ∨ (p ∈ l ∧ p.1 ≠ a)
  | _, _, .head (r := r), nd, p, hp => by
    rcases List.mem_cons.mp hp with rfl | hp
    · exact .inl rfl
    · refine .inr ⟨.tail _ hp, fun e => ?_⟩
      rw [List.map_cons, List.nodup_cons] at nd
      exact nd.1 (List.mem_map.mpr ⟨p, hp, e⟩)
  | _, _, .tail (p := p₀) (r := r) u, nd, p, hp => by
    rw [List.map_cons, List.nodup_cons] at nd
    rcases List.mem_cons.mp hp with rfl | hp
    · refine .inr ⟨.head _, fun e => nd.1 ?_⟩
      rw [e]
      exact List.mem_map.mpr ⟨(a, d), u.mem, rfl⟩
    · rcases u.back nd.2 p hp with h | ⟨h, q⟩
      · exact .inl h
      · exact .inr ⟨.tail _ h, q⟩
theorem LUp.app {a : Addr} {d d' : Obj → Prop} {ys ys' : Led} (h : LUp a d d' ys ys') : ∀ xs : Led, LUp a d d' (xs ++ ys) (xs ++ ys')
  | [] => h
  | _ :: r => .tail (h.app r)
/-- locals by a list -/
def lk (l : List (Str × Value)) (x : Str) : Option Value := l.lookup x
def setL (x : Str) (v : Value) : List (Str × Value) → List (Str × Value)
  | [] => [(x, v)]
  | (y, u) :: r => if x = y then (y, v) :: r else (y, u) :: setL x v r
theorem lk_setL (x : Str) (v : Value) : ∀ (l : List (Str × Value)), lk (setL x v l) = fun y => if y = x then some v else lk l y
  | [] => by
    funext y
    by_cases h : y = x
    · subst h; simp [lk, setL]
    · have : (y == x) = false := beq_eq_false_iff_ne.mpr h
      simp [lk, setL, List.lookup_cons, this, h]
  | (z, u) :: r => by
    funext y
    have ih := congrFun (lk_setL x v r) y
    by_cases hz : x = z
    · subst hz
      by_cases h : y = x
      · subst h; simp [lk, setL]
      · have : (y == x) = false := beq_eq_false_iff_ne.mpr h
        simp [lk, setL, List.lookup_cons, this, h]
    · by_cases h : y = z
      · subst h
        have hyx : ¬ y = x := fun e => hz e.symm
        simp [lk, setL, hz, hyx]
      · have : (y == z) = false := beq_eq_false_iff_ne.mpr h
        simp only [lk, setL, if_neg hz, List.lookup_cons, this] at ih ⊢
        exact ih
inductive Are {α β : Type} (R : α → β → Prop) : List α → List β → Prop
  | nil : Are R [] []
  | cons {a : α} {b : β} {l : List α} {m : List β} : R a b → Are R l m → Are R (a :: l) (b :: m)
namespace Are
variable {α β : Type} {R R' : α → β → Prop}
theorem length : ∀ {l : List α} {m : List β}, Are R l m → l.length = m.length
  | _, _, .nil => rfl
  | _, _, .cons _ r => by rw [List.length_cons, List.length_cons, r.length]
theorem get : ∀ {l : List α} {m : List β}, Are R l m → ∀ {i : Nat} {a : α}, l[i]? = some a → ∃ b, m[i]? = some b ∧ R a b
  | _, _, .cons h r, 0, a, e => by simp at e; subst e; exact ⟨_, rfl, h⟩
  | _, _, .cons h r, i + 1, a, e => by simp at e; obtain ⟨b, e', q⟩ := r.get e; exact ⟨b, by simpa using e', q⟩
theorem mono : ∀ {l : List α} {m : List β}, Are R l m → (∀ a b, R a b → R' a b) → Are R' l m
  | _, _, .nil, _ => .nil
  | _, _, .cons h r, f => .cons (f _ _ h) (r.mono f)
theorem append {l' : List α} {m' : List β} : ∀ {l : List α} {m : List β}, Are R l m → Are R l' m' → Are R (l ++ l') (m ++ m')
  | _, _, .nil, x => x
  | _, _, .cons h r, x => .cons h (r.append x)
theorem take : ∀ {l : List α} {m : List β}, Are R l m → ∀ n, Are R (l.take n) (m.take n)
  | _, _, .nil, n => by simpa using Are.nil
  | _, _, .cons h r, 0 => .nil
  | _, _, .cons h r, n + 1 => .cons h (r.take n)
theorem of_map {f : β → α} : ∀ {m : List β}, (∀ b ∈ m, R (f b) b) → Are R (m.map f) m
  | [], _ => .nil
  | b :: m, h => .cons (h b (.head _)) (of_map fun c hc => h c (.tail _ hc))
end Are
theorem among_snoc {q : Pos} {a b : Nat} {c : Value} (l : List Value) (h : TriplesOk l) {cv : Value} (e : codeAmong q (l ++ [rawInt a, rawInt b, c]) = some cv) :
    codeAmong q l = some cv ∨ (q.line = a ∧ q.col = b ∧ cv = c) := by
  fun_induction TriplesOk l with
  | case1 =>
    simp only [List.nil_append, codeAmong, rawInt] at e
    split at e
    · rename_i hc
      simp only [Bool.and_eq_true, beq_iff_eq] at hc
      exact .inr ⟨by omega, by omega, (Option.some.inj e).symm⟩
    · cases e
  | case2 a' t b' u x rest ih =>
    simp only [List.cons_append, codeAmong] at e ⊢
    split at e
    · rename_i hc; rw [if_pos hc]; exact .inl e
    · rename_i hc; rw [if_neg hc]; exact ih h e
  | case3 l h1 h2 => exact h.elim
/-- the table has one code more -/
theorem TabOk.grow {T : List Addr} {h h' : Heap} {P : Addr} {sp : Spec} {ps : Array Value} {pos : Pos} {qual : Str} {c : Addr} (x : TabOk T h P sp) (e : h.get? P = some (tabObj ps)) (k : ExtT T h h')
    (e' : h'.get? P = some (tabObj (ps ++ #[rawInt pos.line, rawInt pos.col, .ref c]))) (hc : c ∉ T) (hr : h'.CodeRec (.ref c) qual) (hu : (sp.all fun e => !(e.1.1 == pos.line && e.1.2 == pos.col) || e.2 == qual) = true) : TabOk T h' P sp := by
  obtain ⟨ps', a, b, r⟩ := x
  rw [e] at a; cases a
  refine ⟨_, e', by rw [Array.toList_append]; exact TriplesOk_snoc _ _ _ _ b, fun s hs p cv hl hcol hcv => ?_⟩
  rw [Array.toList_append] at hcv
  rcases among_snoc _ b hcv with hcv | ⟨h1, h2, rfl⟩
  · obtain ⟨c', rfl, hT, hr'⟩ := r s hs p cv hl hcol hcv
    exact ⟨c', rfl, hT, codeRec_ext hr' k hT⟩
  · have hq := List.all_eq_true.mp hu s hs
    have : (s.1.1 == pos.line && s.1.2 == pos.col) = true := by
      rw [Bool.and_eq_true, beq_iff_eq, beq_iff_eq]; omega
    rw [this] at hq
    simp at hq
    exact ⟨c, rfl, hc, by rw [hq]; exact hr⟩
theorem tabHit {T : List Addr} {h : Heap} {P : Addr} {sp : Spec} {ps : Array Value} {pos : Pos} {qual : Str} {cv : Value} (x : TabOk T h P sp) (e : h.get? P = some (tabObj ps)) (hs : sp.contains ((pos.line, pos.col), qual) = true)
    (hf : codeAmong pos ps.toList = some cv) : ∃ c, cv = .ref c ∧ c ∉ T ∧ h.CodeRec cv qual := by
  obtain ⟨ps', a, b, r⟩ := x
  rw [e] at a; cases a
  obtain ⟨c, h1, h2, h3⟩ := r ((pos.line, pos.col), qual) (by simpa using hs) pos cv rfl rfl hf
  exact ⟨c, h1, h2, h3⟩

def nestOf : Option Stmt → Arguments × List Stmt × Scope
  | some (.FunctionDef _ a b _ _ _ s _ _ _) => (a, b, s)
  | _ => default
noncomputable def clsBody : { x // x = clsB ((bodyOf 1).headD (.Pass default)) } := ⟨_, rfl⟩
noncomputable def me0 : { x // x = nestOf (clsBody.1)[2]? } := ⟨_, rfl⟩
noncomputable def me1 : { x // x = nestOf (clsBody.1)[3]? } := ⟨_, rfl⟩
/-- what a class made by cmp_to_key is made of: addresses, hashes, tokens, other values -/
structure KD where
  n : Addr
  m : Addr
  ce : Addr
  f0 : Addr
  f1 : Addr
  f2 : Addr
  f3 : Addr
  f4 : Addr
  f5 : Addr
  c0 : Addr
  c1 : Addr
  c2 : Addr
  c3 : Addr
  c4 : Addr
  c5 : Addr
  hs : Nat → Int
  ts : Nat → Tok
  us : Nat → Value
  qs : Nat → Str
  ds : Nat → Value
  ps : Nat → Value
  cts : Nat → Value
  ep : Nat
  b5 : Bool
def kCls (k : Addr) (D : KD) : Obj :=
  { cls := .type "type", data := .cls { name := Str.ofString "K", bases := [.type "object"], mro := [.ref k, .type "object"], ns := D.n, qualname := D.qs 6, hasDict := false, slotNames := [D.qs 7] },
    slots := #[some (D.us 6), none, some (.str (Str.ofString "K") (D.ts 13)), some (.str (D.qs 8) (D.ts 14)), some (.builtin "object.__new__"), some (.bool D.b5)] }
def kMem (k : Addr) (D : KD) : Obj := { cls := .type "member_descriptor", data := .fields #[.str (D.qs 9) (D.ts 15), .ref k, .builtin "proto.slot", .builtin "proto.slot#set", .int 0 0] }
def kNs (D : KD) : Obj :=
  { cls := .type "dict", data := .dict #[⟨D.hs 0, .str (Str.ofString "__module__") (D.ts 0), D.us 0⟩, ⟨D.hs 1, .str (Str.ofString "__firstlineno__") (D.ts 1), D.us 1⟩, ⟨D.hs 2, .str (Str.ofString "__slots__") (D.ts 2), D.us 2⟩, ⟨D.hs 3, .str (Str.ofString "__init__") (D.ts 3), .ref D.f0⟩, ⟨D.hs 4, .str (Str.ofString "__lt__") (D.ts 4), .ref D.f1⟩, ⟨D.hs 5, .str (Str.ofString "__gt__") (D.ts 5), .ref D.f2⟩, ⟨D.hs 6, .str (Str.ofString "__eq__") (D.ts 6), .ref D.f3⟩, ⟨D.hs 7, .str (Str.ofString "__le__") (D.ts 7), .ref D.f4⟩, ⟨D.hs 8, .str (Str.ofString "__ge__") (D.ts 8), .ref D.f5⟩, ⟨D.hs 9, .str (Str.ofString "__hash__") (D.ts 9), D.us 3⟩, ⟨D.hs 10, .str (Str.ofString "__static_attributes__") (D.ts 10), D.us 4⟩, ⟨D.hs 11, .str (Str.ofString "obj") (D.ts 11), .ref D.m⟩, ⟨D.hs 12, .str (Str.ofString "__doc__") (D.ts 12), D.us 5⟩] D.ep }
/-- all that is to be known of the class k over the comparison c -/
structure KAt (F : Addr → Prop) (h : Heap) (c k : Addr) (D : KD) : Prop where
  fk : F k
  fn : F D.n
  fm : F D.m
  fce : F D.ce
  ek : h.get? k = some (kCls k D)
  en : h.get? D.n = some (kNs D)
  em : h.get? D.m = some (kMem k D)
  ece : At h D.ce (dCell (some (.ref c)))
  ff0 : F D.f0
  fc0 : F D.c0
  ef0 : h.get? D.f0 = some { cls := .type "function", data := .func (fnX "__init__" (D.qs 0) me0.1.1 me0.1.2.1 me0.1.2.2 [] .none .none (D.ds 0) (D.ps 0) none (.ref D.c0) (D.cts 0)) }
  ec0 : h.CodeRec (.ref D.c0) (D.qs 0)
  ff1 : F D.f1
  fc1 : F D.c1
  ef1 : h.get? D.f1 = some { cls := .type "function", data := .func (fnX "__lt__" (D.qs 1) me1.1.1 me1.1.2.1 me1.1.2.2 [("mycmp", D.ce)] .none .none (D.ds 1) (D.ps 1) none (.ref D.c1) (D.cts 1)) }
  ec1 : h.CodeRec (.ref D.c1) (D.qs 1)
theorem codeRec_to {h h' : Heap} {a : Addr} {q : Str} (x : h.CodeRec (.ref a) q) (g : ∀ o, h.get? a = some o → h'.get? a = some o) : h'.CodeRec (.ref a) q := by
  obtain ⟨c, o, vs, t, e, r, z⟩ := x
  cases e
  exact ⟨_, o, vs, t, rfl, g _ r, z⟩
theorem KAt.to {F F' : Addr → Prop} {h h' : Heap} {c k : Addr} {D : KD} (x : KAt F h c k D) (f : ∀ a, F a → F' a) (g : ∀ a o, F a → h.get? a = some o → h'.get? a = some o) : KAt F' h' c k D where
    fk := f _ x.fk
    fn := f _ x.fn
    fm := f _ x.fm
    fce := f _ x.fce
    ek := g _ _ x.fk x.ek
    en := g _ _ x.fn x.en
    em := g _ _ x.fm x.em
    ece := x.ece.elim fun o r => ⟨o, g _ _ x.fce r.1, r.2⟩
    ff0 := f _ x.ff0
    fc0 := f _ x.fc0
    ef0 := g _ _ x.ff0 x.ef0
    ec0 := codeRec_to x.ec0 fun o => g _ o x.fc0
    ff1 := f _ x.ff1
    fc1 := f _ x.fc1
    ef1 := g _ _ x.ff1 x.ef1
    ec1 := codeRec_to x.ec1 fun o => g _ o x.fc1
theorem code_ex {h : Heap} {a : Addr} {q : Str} (x : h.CodeRec (.ref a) q) : ∃ cc cd c0 ct cr csl, h.get? a = some ⟨cc, cd, .fields ⟨c0 :: .str q ct :: cr⟩, csl⟩ := by
  obtain ⟨c, o, vs, t, e, g, d, r⟩ := x
  cases e
  obtain ⟨cc, cd, da, csl⟩ := o
  have d : da = .fields vs := d
  subst d
  obtain ⟨l⟩ := vs
  cases l with
  | nil => simp at r
  | cons c0 l =>
    cases l with
    | nil => simp at r
    | cons c1 cr =>
      have : c1 = .str q t := by simpa using r
      subst this
      exact ⟨cc, cd, c0, t, cr, csl, g⟩

section
open PySem.W.X
def kInst (k dx va : Addr) : Obj := { cls := .ref k, dict := some dx, data := .plain, slots := #[some (.ref va)] }
def kEmp : Obj := { cls := .type "dict", data := .dict #[] 0 }
set_option hygiene false in
local macro_rules | `(tactic| wtm_at "mine g_nT") => `(tactic| (rw [hT]; exact List.not_mem_nil))
theorem slot_run {X : Cx} {A : Around} {t : Nat} {F : Addr → Prop} {c k x dx va : Addr} {D : KD} {Q : Value → Shared → Prop} {E : Value → Shared → Prop} (hT : X.T = []) (H : KAt F X.h₀ c k D)
   (ex1 : X.h₀.get? x = some (kInst k dx va)) (q : ∀ h t c', Own3 X [] [] c' h → Q (.ref va) ⟨h, X.g, X.d, t, X.os⟩) :
   WO X [] [] 97 t A (getAttr (.ref x) "obj" true) Q E := by
  wtm_at "mine q_fr"
  refine f_base (by kernel_rfl) rfl ex1 (by wtm_at "mine g_nT") ?_
  refine f_base (by kernel_rfl) rfl H.ek (by wtm_at "mine g_nT") ?_
  refine f_base (by kernel_rfl) rfl H.ek (by wtm_at "mine g_nT") ?_
  refine f_base (by kernel_rfl) rfl H.en (by wtm_at "mine g_nT") ?_
  wtm_at "mine q_cc"
  refine f_base (by kernel_rfl) rfl ex1 (by wtm_at "mine g_nT") ?_
  refine f_base (by kernel_rfl) rfl H.ek (by wtm_at "mine g_nT") ?_
  refine f_base (by kernel_rfl) rfl H.ek (by wtm_at "mine g_nT") ?_
  refine f_base (by kernel_rfl) rfl H.en (by wtm_at "mine g_nT") ?_
  refine f_base (by kernel_rfl) rfl H.em (by wtm_at "mine g_nT") ?_
  refine f_base (by kernel_rfl) rfl H.em (by wtm_at "mine g_nT") ?_
  refine f_base (by kernel_rfl) rfl H.ek (by wtm_at "mine g_nT") ?_
  refine f_base (by kernel_rfl) rfl H.ek (by wtm_at "mine g_nT") ?_
  refine f_base (by kernel_rfl) rfl H.en (by wtm_at "mine g_nT") ?_
  wtm_at "mine q_cc"
  refine f_base (by kernel_rfl) rfl H.em (by wtm_at "mine g_nT") ?_
  wtm_at "mine q_ag"
  refine f_base (by kernel_rfl) rfl H.em (by wtm_at "mine g_nT") ?_
  refine f_base (by kernel_rfl) rfl H.em (by wtm_at "mine g_nT") ?_
  refine f_base (by kernel_rfl) rfl ex1 (by wtm_at "mine g_nT") ?_
  refine f_base (by kernel_rfl) rfl H.ek (by wtm_at "mine g_nT") ?_
  wtm_at "mine ck"
  refine e_bind ?_
  wtm_at "mine gw"
  refine e_brF (by (rw [Bool.not_eq_false']) <;> exact elem_self) ?_
  wtm_at "mine q_pu"
  refine f_base (by kernel_rfl) rfl H.em (by wtm_at "mine g_nT") ?_
  refine f_base (by kernel_rfl) rfl H.em (by wtm_at "mine g_nT") ?_
  wtm_at "mine q_ag"
  refine f_base (by kernel_rfl) rfl H.em (by wtm_at "mine g_nT") ?_
  refine f_base (by kernel_rfl) rfl H.em (by wtm_at "mine g_nT") ?_
  refine f_base (by kernel_rfl) rfl ex1 (by wtm_at "mine g_nT") ?_
  refine f_base (by kernel_rfl) rfl H.ek (by wtm_at "mine g_nT") ?_
  refine f_base (by kernel_rfl) rfl ex1 (by wtm_at "mine g_nT") ?_
  wtm_at "mine q_dn"
  wtm_at "mine q_dn"
  refine' f_end ?h fun h D => q h _ _ D
  exact rfl
theorem inst_run {X : Cx} {A : Around} {t : Nat} {F : Addr → Prop} {c k va : Addr} {D : KD} {Q : Value → Shared → Prop} {E : Value → Shared → Prop} {cc : Value} {cd : Option Addr} {c0 : Value} {ct : Tok} {cr : List Value} {csl : Array (Option Value)} (hA : AK A 400 400) (hT : X.T = []) (K : KIn X.w.params X.h₀) (H : KAt F X.h₀ c k D)
   (ec : X.h₀.get? D.c0 = some ⟨cc, cd, .fields ⟨c0 :: .str (D.qs 0) ct :: cr⟩, csl⟩)
   (q : ∀ h t own i j c', Own3 X [] own c' h → Nat.beq i j = false → fd own i = some (kInst k (ad X j) va) → fd own j = some kEmp → Q (.ref (ad X i)) ⟨h, X.g, X.d, t, X.os⟩) :
   WO X [] [] 97 t A (call (.ref k) [.ref va] []) Q E := by
  wtm_at "mine q_cc"
  refine f_base (by kernel_rfl) rfl H.ek (by wtm_at "mine g_nT") ?_
  refine f_base (by kernel_rfl) rfl H.ek (by wtm_at "mine g_nT") ?_
  wtm_at "mine q_ag"
  refine f_base (by kernel_rfl) rfl H.ek (by wtm_at "mine g_nT") ?_
  wtm_at "mine q_ag"
  refine f_base (by kernel_rfl) rfl H.ek (by wtm_at "mine g_nT") ?_
  refine f_base (by kernel_rfl) rfl H.ek (by wtm_at "mine g_nT") ?_
  refine f_base (by kernel_rfl) rfl H.ek (by wtm_at "mine g_nT") ?_
  wtm_at "mine q_cc"
  refine f_base (by kernel_rfl) rfl H.ek (by wtm_at "mine g_nT") ?_
  refine f_base (by kernel_rfl) rfl H.ek (by wtm_at "mine g_nT") ?_
  refine f_base (by kernel_rfl) rfl H.ek (by wtm_at "mine g_nT") ?_
  refine f_base (by kernel_rfl) rfl H.ek (by wtm_at "mine g_nT") ?_
  refine f_base (by kernel_rfl) rfl H.ek (by wtm_at "mine g_nT") ?_
  refine f_base (by kernel_rfl) rfl H.ek (by wtm_at "mine g_nT") ?_
  refine f_base (by kernel_rfl) rfl H.ek (by wtm_at "mine g_nT") ?_
  wtm_at "mine q_ag"
  refine f_base (by kernel_rfl) rfl H.ek (by wtm_at "mine g_nT") ?_
  refine f_base (by kernel_rfl) rfl H.ek (by wtm_at "mine g_nT") ?_
  refine f_base (by kernel_rfl) rfl H.ek (by wtm_at "mine g_nT") ?_
  refine f_base (by kernel_rfl) rfl H.ek (by wtm_at "mine g_nT") ?_
  refine f_base (by kernel_rfl) rfl H.ek (by wtm_at "mine g_nT") ?_
  refine f_base (by kernel_rfl) rfl H.ek (by wtm_at "mine g_nT") ?_
  refine f_base (by kernel_rfl) rfl H.ek (by wtm_at "mine g_nT") ?_
  refine f_base (by kernel_rfl) rfl H.ek (by wtm_at "mine g_nT") ?_
  refine f_base (by kernel_rfl) rfl H.ek (by wtm_at "mine g_nT") ?_
  refine f_base (by kernel_rfl) rfl H.ek (by wtm_at "mine g_nT") ?_
  refine f_base (by kernel_rfl) rfl H.en (by wtm_at "mine g_nT") ?_
  refine f_base (by kernel_rfl) rfl H.ek (by wtm_at "mine g_nT") ?_
  wtm_at "mine q_al"
  wtm_at "mine q_al"
  refine f_base (by kernel_rfl) rfl H.ek (by wtm_at "mine g_nT") ?_
  wtm_at "mine q_dn"
  refine f_own 98 (by kernel_rfl) rfl ?_
  refine f_base (by kernel_rfl) rfl H.ek (by wtm_at "mine g_nT") ?_
  wtm_at "mine gw"
  refine e_brF (by (rw [Bool.not_eq_false']) <;> exact elem_self) ?_
  refine f_own 98 (by kernel_rfl) rfl ?_
  refine f_base (by kernel_rfl) rfl H.ek (by wtm_at "mine g_nT") ?_
  refine f_base (by kernel_rfl) rfl H.ek (by wtm_at "mine g_nT") ?_
  refine f_base (by kernel_rfl) rfl H.en (by wtm_at "mine g_nT") ?_
  refine f_base (by kernel_rfl) rfl H.ef0 (by wtm_at "mine g_nT") ?_
  wtm_at "mine q_cc"
  refine f_base (by kernel_rfl) rfl H.ef0 (by wtm_at "mine g_nT") ?_
  refine f_base (by kernel_rfl) rfl ec (by wtm_at "mine g_nT") ?_
  wtm_at "mine q_al"
  wtm_at "mine q_fr"
  refine f_own 99 (by kernel_rfl) rfl ?_
  refine' f_upd 99 ?h ?ho ?hf ?hn ?hr ?_
  wtm_at "mine q_upr"
  wtm_at "mine q_fr"
  refine f_own 99 (by kernel_rfl) rfl ?_
  refine' f_upd 99 ?h ?ho ?hf ?hn ?hr ?_
  wtm_at "mine q_upr"
  wtm_at "mine q_st"
  refine f_base (by kernel_rfl) rfl (KIn.at (a := 2) K rfl (by decide)) (by wtm_at "mine g_nT") ?_
  wtm_at "mine ck"
  refine e_bind ?_
  wtm_at "mine gw"
  rw [L1]
  rw [L2]
  rw [L3]
  wtm_at "mine q_pu"
  wtm_at "mine q_ag"
  refine f_own 99 (by kernel_rfl) rfl ?_
  refine f_own 99 (by kernel_rfl) rfl ?_
  wtm_at "mine q_fr"
  refine f_own 98 (by kernel_rfl) rfl ?_
  refine f_base (by kernel_rfl) rfl H.ek (by wtm_at "mine g_nT") ?_
  refine f_base (by kernel_rfl) rfl H.ek (by wtm_at "mine g_nT") ?_
  refine f_base (by kernel_rfl) rfl H.en (by wtm_at "mine g_nT") ?_
  wtm_at "mine q_cc"
  refine f_own 98 (by kernel_rfl) rfl ?_
  refine f_base (by kernel_rfl) rfl H.ek (by wtm_at "mine g_nT") ?_
  wtm_at "mine q_ag"
  refine f_own 98 (by kernel_rfl) rfl ?_
  refine f_base (by kernel_rfl) rfl H.ek (by wtm_at "mine g_nT") ?_
  refine f_own 98 (by kernel_rfl) rfl ?_
  refine f_base (by kernel_rfl) rfl H.ek (by wtm_at "mine g_nT") ?_
  refine f_base (by kernel_rfl) rfl H.ek (by wtm_at "mine g_nT") ?_
  refine f_base (by kernel_rfl) rfl H.en (by wtm_at "mine g_nT") ?_
  refine f_base (by kernel_rfl) rfl H.em (by wtm_at "mine g_nT") ?_
  refine f_base (by kernel_rfl) rfl H.em (by wtm_at "mine g_nT") ?_
  wtm_at "mine q_cc"
  refine f_base (by kernel_rfl) rfl H.em (by wtm_at "mine g_nT") ?_
  wtm_at "mine q_ag"
  refine f_base (by kernel_rfl) rfl H.em (by wtm_at "mine g_nT") ?_
  refine f_base (by kernel_rfl) rfl H.em (by wtm_at "mine g_nT") ?_
  refine f_own 98 (by kernel_rfl) rfl ?_
  refine f_base (by kernel_rfl) rfl H.ek (by wtm_at "mine g_nT") ?_
  wtm_at "mine ck"
  refine e_bind ?_
  wtm_at "mine gw"
  refine e_brF (by (rw [Bool.not_eq_false']) <;> exact elem_self) ?_
  wtm_at "mine q_pu"
  refine f_base (by kernel_rfl) rfl H.em (by wtm_at "mine g_nT") ?_
  refine f_base (by kernel_rfl) rfl H.em (by wtm_at "mine g_nT") ?_
  wtm_at "mine q_ag"
  refine f_base (by kernel_rfl) rfl H.em (by wtm_at "mine g_nT") ?_
  refine f_base (by kernel_rfl) rfl H.em (by wtm_at "mine g_nT") ?_
  refine f_own 98 (by kernel_rfl) rfl ?_
  refine f_base (by kernel_rfl) rfl H.ek (by wtm_at "mine g_nT") ?_
  refine' f_upd 98 ?h ?ho ?hf ?hn ?hr ?_
  wtm_at "mine q_upr"
  wtm_at "mine q_dn"
  wtm_at "mine q_dn"
  wtm_at "mine q_dn"
  wtm_at "mine q_dn"
  refine' f_end (a := .ref (ad X 98)) ?z fun h D => ?_
  case z => kernel_rfl
  refine' q h _ _ _ _ _ D ?a ?b ?c
  case b => exact rfl
  case c => exact rfl
  case a => exact rfl

end
section
open PySem.W.X
abbrev emptyTab : Obj := { cls := .none, data := .fields #[] }
def oEnts (o : Option Obj) : List DictEntry := match o with
  | some ⟨_, _, .dict es _, _⟩ => es.toList
  | _ => []
def oEp (o : Option Obj) : Nat := match o with
  | some ⟨_, _, .dict _ n, _⟩ => n
  | _ => 0
def oFun (o : Option Obj) : FuncData := match o with
  | some ⟨_, _, .func f, _⟩ => f
  | _ => default
def oSlot (o : Option Obj) (i : Nat) : Value := match o with
  | some ⟨_, _, _, sl⟩ => (sl.toList.getD i none).getD .none
  | _ => .none
def oCls (o : Option Obj) : Str × List Str := match o with
  | some ⟨_, _, .cls c, _⟩ => (c.qualname, c.slotNames)
  | _ => (⟨#[]⟩, [])
def oFld (o : Option Obj) (i : Nat) : Value := match o with
  | some ⟨_, _, .fields vs, _⟩ => vs.toList.getD i .none
  | _ => .none
def vTok : Value → Tok
  | .str _ t => t
  | _ => 0
def vStr : Value → Str
  | .str s _ => s
  | _ => ⟨#[]⟩
def vTrue : Value → Bool
  | .bool b => b
  | _ => false
noncomputable def mkE (own : Hist) (i : Nat) : DictEntry := (oEnts (fd own 156)).getD i ⟨0, .none, .none⟩
/-- what the class is made of, read off the cells -/
noncomputable def mkD (X : Cx) (own : Hist) : KD where
  n := ad X 156
  m := ad X 158
  ce := ad X 98
  f0 := ad X 113
  f1 := ad X 121
  f2 := ad X 129
  f3 := ad X 137
  f4 := ad X 145
  f5 := ad X 153
  c0 := ad X 112
  c1 := ad X 120
  c2 := ad X 128
  c3 := ad X 136
  c4 := ad X 144
  c5 := ad X 152
  hs := fun i => (mkE own i).hash
  ts := fun i => match i with
    | 13 => vTok (oSlot (fd own 157) 2)
    | 14 => vTok (oSlot (fd own 157) 3)
    | 15 => vTok (oFld (fd own 158) 0)
    | i => vTok (mkE own i).key
  us := fun i => match i with
    | 3 => (mkE own 9).val
    | 4 => (mkE own 10).val
    | 5 => (mkE own 12).val
    | 6 => oSlot (fd own 157) 0
    | i => (mkE own i).val
  qs := fun i => match i with
    | 6 => (oCls (fd own 157)).1
    | 7 => (oCls (fd own 157)).2.headD ⟨#[]⟩
    | 8 => vStr (oSlot (fd own 157) 3)
    | 9 => vStr (oFld (fd own 158) 0)
    | i => (oFun (fd own (113 + 8 * i))).qualname
  ds := fun i => (oFun (fd own (113 + 8 * i))).doc
  ps := fun i => (oFun (fd own (113 + 8 * i))).pyModule
  cts := fun i => (oFun (fd own (113 + 8 * i))).closureTuple
  ep := oEp (fd own 156)
  b5 := vTrue (oSlot (fd own 157) 5)
theorem Own3.new {X : Cx} {tb own : Hist} {c : Nat} {h : Heap} (D : Own3 X tb own c h) (j : Nat) (hj : Nat.ble 97 j = true) : X.h₀.get? (ad X j) = none :=
  Heap.get?_none_of_le (by rw [D.sz0]; exact Nat.add_le_add_left (Nat.le_of_ble_eq_true hj) _)
theorem code_at {h : Heap} {a : Addr} {q q' : Str} {t : Tok} {cl : Value} {dd : Option Addr} {sl : Array (Option Value)} {vs : Array Value} (e : h.get? a = some ⟨cl, dd, .fields vs, sl⟩) (hv : vs[1]? = some (.str q t)) (hq : q = q') : h.CodeRec (.ref a) q' := by
  subst hq; exact ⟨a, _, _, t, rfl, e, rfl, hv⟩
set_option hygiene false in
local macro_rules | `(tactic| wtm_at "mine g_nT") => `(tactic| (rw [hT]; decide))
theorem zid {s : Str} (h : s = Str.ofString "obj") : ZFast.zw10133417225327028743 s = some true := by subst h; kernel_rfl
theorem cell_at {h : Heap} {a : Addr} {v : Option Value} {o : Obj} (e : h.get? a = some o) (h1 : o.data = .cell v) : At h a (dCell v) := ⟨o, e, h1⟩
theorem cmp_fin {X : Cx} {tb own : Hist} {n t : Nat} {h : Heap} {c k : Addr} {Q : Value → Shared → Prop} (D : Own3 X tb own n h)
   (q : ∀ h t k D, (∀ b o, X.h₀.get? b = some o → b ∉ X.T → h.get? b = some o) → KAt (fun a => X.h₀.get? a = none) h c k D → (∃ vs, h.get? 16 = some { cls := .none, data := .fields vs }) → Q (.ref k) ⟨h, X.g, X.d, t, X.os⟩)
   (hk : KAt (fun a => X.h₀.get? a = none) h c k (mkD X own)) (h16 : ∃ vs, h.get? 16 = some { cls := .none, data := .fields vs }) : Q (.ref k) ⟨h, X.g, X.d, t, X.os⟩ := q h t k _ D.keep hk h16
theorem cmp_run {X : Cx} {A : Around} {t : Nat} {c : Addr} {Q : Value → Shared → Prop} {E : Value → Shared → Prop} (hA : AK A 400 400) (hT : X.T = [16]) (K : KIn X.w.params X.h₀)
   (q : ∀ h t k D, (∀ b o, X.h₀.get? b = some o → b ∉ X.T → h.get? b = some o) → KAt (fun a => X.h₀.get? a = none) h c k D → (∃ vs, h.get? 16 = some { cls := .none, data := .fields vs }) → Q (.ref k) ⟨h, X.g, X.d, t, X.os⟩) :
   WO X [(16, emptyTab)] [] 97 t A (call (.ref 21) [.ref c] []) Q E := by
  wtm_at "mine q_cc"
  refine f_base (by kernel_rfl) rfl (KIn.at (a := 21) K rfl (by decide)) (by wtm_at "mine g_nT") ?_
  refine f_base (by kernel_rfl) rfl (KIn.at (a := 20) K rfl (by decide)) (by wtm_at "mine g_nT") ?_
  wtm_at "mine q_al"
  wtm_at "mine q_al"
  refine f_own 98 (by kernel_rfl) rfl ?_
  refine' f_upd 98 ?h ?ho ?hf ?hn ?hr ?_
  wtm_at "mine q_upr"
  wtm_at "mine q_st"
  refine f_base (by kernel_rfl) rfl (KIn.at (a := 2) K rfl (by decide)) (by wtm_at "mine g_nT") ?_
  wtm_at "mine ck"
  refine e_bind ?_
  wtm_at "mine gw"
  rw [L1]
  rw [L2]
  rw [L3]
  wtm_at "mine q_pu"
  wtm_at "mine q_ag"
  refine f_base (by kernel_rfl) rfl (KIn.at (a := 0) K rfl (by decide)) (by wtm_at "mine g_nT") ?_
  refine f_base (by kernel_rfl) rfl (KIn.at (a := 3) K rfl (by decide)) (by wtm_at "mine g_nT") ?_
  refine f_base (by kernel_rfl) rfl (KIn.at (a := 0) K rfl (by decide)) (by wtm_at "mine g_nT") ?_
  wtm_at "mine q_al"
  wtm_at "mine q_fr"
  wtm_at "mine q_fr"
  wtm_at "mine q_cc"
  wtm_at "mine q_ag"
  wtm_at "mine q_cc"
  wtm_at "mine q_ag"
  wtm_at "mine q_al"
  wtm_at "mine q_dn"
  wtm_at "mine q_dn"
  wtm_at "mine q_cc"
  refine f_own 100 (by kernel_rfl) rfl ?_
  wtm_at "mine q_ag"
  wtm_at "mine q_al"
  wtm_at "mine q_dn"
  refine f_own 101 (by kernel_rfl) rfl ?_
  refine f_base (by kernel_rfl) rfl (KIn.at (a := 20) K rfl (by decide)) (by wtm_at "mine g_nT") ?_
  refine f_tab (a := 16) (by kernel_rfl) rfl rfl ?_
  wtm_at "mine q_fr"
  wtm_at "mine q_fr"
  wtm_at "mine q_fr"
  wtm_at "mine q_fr"
  wtm_at "mine q_al"
  wtm_at "mine q_al"
  wtm_at "mine q_fr"
  wtm_at "mine q_fr"
  wtm_at "mine q_al"
  refine f_tab (a := 16) (by kernel_rfl) rfl rfl ?_
  refine' f_updT (a := 16) ?h ?ho ?hf ?hn ?hr ?_
  wtm_at "mine q_upr"
  refine f_tab (a := 16) (by kernel_rfl) rfl rfl ?_
  refine f_base (by kernel_rfl) rfl (KIn.at (a := 3) K rfl (by decide)) (by wtm_at "mine g_nT") ?_
  refine f_base (by kernel_rfl) rfl (KIn.at (a := 4) K rfl (by decide)) (by wtm_at "mine g_nT") ?_
  refine f_base (by kernel_rfl) rfl (KIn.at (a := 3) K rfl (by decide)) (by wtm_at "mine g_nT") ?_
  wtm_at "mine q_al"
  wtm_at "mine q_st"
  refine f_base (by kernel_rfl) rfl (KIn.at (a := 2) K rfl (by decide)) (by wtm_at "mine g_nT") ?_
  wtm_at "mine ck"
  refine e_bind ?_
  wtm_at "mine ck"
  refine e_onRaise ?_
  wtm_at "mine ck"
  refine e_bind ?_
  wtm_at "mine ck"
  refine e_bind ?_
  wtm_at "mine ck"
  refine e_keep ?_
  wtm_at "mine ck"
  refine e_keep ?_
  wtm_at "mine ck"
  refine e_keep ?_
  wtm_at "mine ck"
  refine e_bind ?_
  wtm_at "mine gw"
  rw [L1]
  rw [L2]
  rw [L3]
  wtm_at "mine q_pu"
  refine f_own 101 (by kernel_rfl) rfl ?_
  refine f_own 101 (by kernel_rfl) rfl ?_
  refine f_base (by kernel_rfl) rfl (KIn.at (a := 3) K rfl (by decide)) (by wtm_at "mine g_nT") ?_
  refine f_own 101 (by kernel_rfl) rfl ?_
  wtm_at "mine q_fr"
  refine f_own 101 (by kernel_rfl) rfl ?_
  refine' f_upd 101 ?h ?ho ?hf ?hn ?hr ?_
  wtm_at "mine q_upr"
  wtm_at "mine q_fr"
  refine f_own 101 (by kernel_rfl) rfl ?_
  wtm_at "mine q_fr"
  refine f_own 101 (by kernel_rfl) rfl ?_
  refine' f_upd 101 ?h ?ho ?hf ?hn ?hr ?_
  wtm_at "mine q_upr"
  wtm_at "mine q_fr"
  refine f_own 101 (by kernel_rfl) rfl ?_
  wtm_at "mine q_fr"
  refine f_own 101 (by kernel_rfl) rfl ?_
  refine' f_upd 101 ?h ?ho ?hf ?hn ?hr ?_
  wtm_at "mine q_upr"
  wtm_at "mine q_cc"
  wtm_at "mine q_fr"
  refine f_own 101 (by kernel_rfl) rfl ?_
  wtm_at "mine q_fr"
  refine f_own 101 (by kernel_rfl) rfl ?_
  refine' f_upd 101 ?h ?ho ?hf ?hn ?hr ?_
  wtm_at "mine q_upr"
  wtm_at "mine q_fr"
  wtm_at "mine q_al"
  refine f_own 101 (by kernel_rfl) rfl ?_
  wtm_at "mine q_fr"
  refine f_own 101 (by kernel_rfl) rfl ?_
  refine' f_upd 101 ?h ?ho ?hf ?hn ?hr ?_
  wtm_at "mine q_upr"
  refine f_own 104 (by kernel_rfl) rfl ?_
  refine f_own 103 (by kernel_rfl) rfl ?_
  wtm_at "mine q_fr"
  wtm_at "mine q_fr"
  wtm_at "mine q_fr"
  wtm_at "mine q_al"
  wtm_at "mine q_al"
  wtm_at "mine q_fr"
  wtm_at "mine q_fr"
  wtm_at "mine q_al"
  wtm_at "mine q_al"
  wtm_at "mine q_al"
  wtm_at "mine q_fr"
  wtm_at "mine q_fr"
  wtm_at "mine q_al"
  refine f_own 103 (by kernel_rfl) rfl ?_
  refine' f_upd 103 ?h ?ho ?hf ?hn ?hr ?_
  wtm_at "mine q_upr"
  refine f_own 103 (by kernel_rfl) rfl ?_
  refine f_base (by kernel_rfl) rfl (KIn.at (a := 3) K rfl (by decide)) (by wtm_at "mine g_nT") ?_
  refine f_base (by kernel_rfl) rfl (KIn.at (a := 4) K rfl (by decide)) (by wtm_at "mine g_nT") ?_
  refine f_base (by kernel_rfl) rfl (KIn.at (a := 3) K rfl (by decide)) (by wtm_at "mine g_nT") ?_
  wtm_at "mine q_al"
  refine f_own 101 (by kernel_rfl) rfl ?_
  wtm_at "mine q_fr"
  refine f_own 101 (by kernel_rfl) rfl ?_
  refine' f_upd 101 ?h ?ho ?hf ?hn ?hr ?_
  wtm_at "mine q_upr"
  wtm_at "mine q_al"
  refine f_own 104 (by kernel_rfl) rfl ?_
  refine f_own 103 (by kernel_rfl) rfl ?_
  wtm_at "mine q_fr"
  wtm_at "mine q_fr"
  wtm_at "mine q_fr"
  wtm_at "mine q_fr"
  wtm_at "mine q_al"
  wtm_at "mine q_al"
  wtm_at "mine q_fr"
  wtm_at "mine q_fr"
  wtm_at "mine q_al"
  wtm_at "mine q_al"
  wtm_at "mine q_al"
  wtm_at "mine q_fr"
  wtm_at "mine q_fr"
  wtm_at "mine q_al"
  refine f_own 103 (by kernel_rfl) rfl ?_
  refine' f_upd 103 ?h ?ho ?hf ?hn ?hr ?_
  wtm_at "mine q_upr"
  refine f_own 103 (by kernel_rfl) rfl ?_
  refine f_base (by kernel_rfl) rfl (KIn.at (a := 3) K rfl (by decide)) (by wtm_at "mine g_nT") ?_
  refine f_base (by kernel_rfl) rfl (KIn.at (a := 4) K rfl (by decide)) (by wtm_at "mine g_nT") ?_
  refine f_base (by kernel_rfl) rfl (KIn.at (a := 3) K rfl (by decide)) (by wtm_at "mine g_nT") ?_
  wtm_at "mine q_al"
  refine f_own 101 (by kernel_rfl) rfl ?_
  wtm_at "mine q_fr"
  refine f_own 101 (by kernel_rfl) rfl ?_
  refine' f_upd 101 ?h ?ho ?hf ?hn ?hr ?_
  wtm_at "mine q_upr"
  wtm_at "mine q_al"
  refine f_own 104 (by kernel_rfl) rfl ?_
  refine f_own 103 (by kernel_rfl) rfl ?_
  wtm_at "mine q_fr"
  wtm_at "mine q_fr"
  wtm_at "mine q_fr"
  wtm_at "mine q_fr"
  wtm_at "mine q_al"
  wtm_at "mine q_al"
  wtm_at "mine q_fr"
  wtm_at "mine q_fr"
  wtm_at "mine q_al"
  wtm_at "mine q_al"
  wtm_at "mine q_al"
  wtm_at "mine q_fr"
  wtm_at "mine q_fr"
  wtm_at "mine q_al"
  refine f_own 103 (by kernel_rfl) rfl ?_
  refine' f_upd 103 ?h ?ho ?hf ?hn ?hr ?_
  wtm_at "mine q_upr"
  refine f_own 103 (by kernel_rfl) rfl ?_
  refine f_base (by kernel_rfl) rfl (KIn.at (a := 3) K rfl (by decide)) (by wtm_at "mine g_nT") ?_
  refine f_base (by kernel_rfl) rfl (KIn.at (a := 4) K rfl (by decide)) (by wtm_at "mine g_nT") ?_
  refine f_base (by kernel_rfl) rfl (KIn.at (a := 3) K rfl (by decide)) (by wtm_at "mine g_nT") ?_
  wtm_at "mine q_al"
  refine f_own 101 (by kernel_rfl) rfl ?_
  wtm_at "mine q_fr"
  refine f_own 101 (by kernel_rfl) rfl ?_
  refine' f_upd 101 ?h ?ho ?hf ?hn ?hr ?_
  wtm_at "mine q_upr"
  wtm_at "mine q_al"
  refine f_own 104 (by kernel_rfl) rfl ?_
  refine f_own 103 (by kernel_rfl) rfl ?_
  wtm_at "mine q_fr"
  wtm_at "mine q_fr"
  wtm_at "mine q_fr"
  wtm_at "mine q_fr"
  wtm_at "mine q_al"
  wtm_at "mine q_al"
  wtm_at "mine q_fr"
  wtm_at "mine q_fr"
  wtm_at "mine q_al"
  wtm_at "mine q_al"
  wtm_at "mine q_al"
  wtm_at "mine q_fr"
  wtm_at "mine q_fr"
  wtm_at "mine q_al"
  refine f_own 103 (by kernel_rfl) rfl ?_
  refine' f_upd 103 ?h ?ho ?hf ?hn ?hr ?_
  wtm_at "mine q_upr"
  refine f_own 103 (by kernel_rfl) rfl ?_
  refine f_base (by kernel_rfl) rfl (KIn.at (a := 3) K rfl (by decide)) (by wtm_at "mine g_nT") ?_
  refine f_base (by kernel_rfl) rfl (KIn.at (a := 4) K rfl (by decide)) (by wtm_at "mine g_nT") ?_
  refine f_base (by kernel_rfl) rfl (KIn.at (a := 3) K rfl (by decide)) (by wtm_at "mine g_nT") ?_
  wtm_at "mine q_al"
  refine f_own 101 (by kernel_rfl) rfl ?_
  wtm_at "mine q_fr"
  refine f_own 101 (by kernel_rfl) rfl ?_
  refine' f_upd 101 ?h ?ho ?hf ?hn ?hr ?_
  wtm_at "mine q_upr"
  wtm_at "mine q_al"
  refine f_own 104 (by kernel_rfl) rfl ?_
  refine f_own 103 (by kernel_rfl) rfl ?_
  wtm_at "mine q_fr"
  wtm_at "mine q_fr"
  wtm_at "mine q_fr"
  wtm_at "mine q_fr"
  wtm_at "mine q_al"
  wtm_at "mine q_al"
  wtm_at "mine q_fr"
  wtm_at "mine q_fr"
  wtm_at "mine q_al"
  wtm_at "mine q_al"
  wtm_at "mine q_al"
  wtm_at "mine q_fr"
  wtm_at "mine q_fr"
  wtm_at "mine q_al"
  refine f_own 103 (by kernel_rfl) rfl ?_
  refine' f_upd 103 ?h ?ho ?hf ?hn ?hr ?_
  wtm_at "mine q_upr"
  refine f_own 103 (by kernel_rfl) rfl ?_
  refine f_base (by kernel_rfl) rfl (KIn.at (a := 3) K rfl (by decide)) (by wtm_at "mine g_nT") ?_
  refine f_base (by kernel_rfl) rfl (KIn.at (a := 4) K rfl (by decide)) (by wtm_at "mine g_nT") ?_
  refine f_base (by kernel_rfl) rfl (KIn.at (a := 3) K rfl (by decide)) (by wtm_at "mine g_nT") ?_
  wtm_at "mine q_al"
  refine f_own 101 (by kernel_rfl) rfl ?_
  wtm_at "mine q_fr"
  refine f_own 101 (by kernel_rfl) rfl ?_
  refine' f_upd 101 ?h ?ho ?hf ?hn ?hr ?_
  wtm_at "mine q_upr"
  wtm_at "mine q_al"
  refine f_own 104 (by kernel_rfl) rfl ?_
  refine f_own 103 (by kernel_rfl) rfl ?_
  wtm_at "mine q_fr"
  wtm_at "mine q_fr"
  wtm_at "mine q_fr"
  wtm_at "mine q_fr"
  wtm_at "mine q_al"
  wtm_at "mine q_al"
  wtm_at "mine q_fr"
  wtm_at "mine q_fr"
  wtm_at "mine q_al"
  wtm_at "mine q_al"
  wtm_at "mine q_al"
  wtm_at "mine q_fr"
  wtm_at "mine q_fr"
  wtm_at "mine q_al"
  refine f_own 103 (by kernel_rfl) rfl ?_
  refine' f_upd 103 ?h ?ho ?hf ?hn ?hr ?_
  wtm_at "mine q_upr"
  refine f_own 103 (by kernel_rfl) rfl ?_
  refine f_base (by kernel_rfl) rfl (KIn.at (a := 3) K rfl (by decide)) (by wtm_at "mine g_nT") ?_
  refine f_base (by kernel_rfl) rfl (KIn.at (a := 4) K rfl (by decide)) (by wtm_at "mine g_nT") ?_
  refine f_base (by kernel_rfl) rfl (KIn.at (a := 3) K rfl (by decide)) (by wtm_at "mine g_nT") ?_
  wtm_at "mine q_al"
  refine f_own 101 (by kernel_rfl) rfl ?_
  wtm_at "mine q_fr"
  refine f_own 101 (by kernel_rfl) rfl ?_
  refine' f_upd 101 ?h ?ho ?hf ?hn ?hr ?_
  wtm_at "mine q_upr"
  refine f_own 101 (by kernel_rfl) rfl ?_
  wtm_at "mine q_fr"
  refine f_own 101 (by kernel_rfl) rfl ?_
  refine' f_upd 101 ?h ?ho ?hf ?hn ?hr ?_
  wtm_at "mine q_upr"
  wtm_at "mine q_dn"
  wtm_at "mine q_fr"
  wtm_at "mine q_al"
  refine f_own 101 (by kernel_rfl) rfl ?_
  wtm_at "mine q_fr"
  refine f_own 101 (by kernel_rfl) rfl ?_
  refine' f_upd 101 ?h ?ho ?hf ?hn ?hr ?_
  wtm_at "mine q_upr"
  wtm_at "mine q_cc"
  wtm_at "mine q_ag"
  wtm_at "mine ck"
  refine e_bind ?_
  wtm_at "mine ck"
  refine e_bind ?_
  wtm_at "mine ck"
  refine e_bind ?_
  wtm_at "mine q_bF"
  wtm_at "mine q_pu"
  wtm_at "mine q_pu"
  wtm_at "mine q_pu"
  wtm_at "mine q_cc"
  wtm_at "mine ck"
  refine e_bind ?_
  wtm_at "mine ck"
  refine e_bind ?_
  wtm_at "mine ck"
  refine e_bind ?_
  wtm_at "mine ck"
  refine e_bind ?_
  wtm_at "mine ck"
  refine e_bind ?_
  wtm_at "mine ck"
  refine e_bind ?_
  wtm_at "mine ck"
  refine e_bind ?_
  wtm_at "mine q_bF"
  wtm_at "mine q_pu"
  wtm_at "mine q_pu"
  wtm_at "mine q_pu"
  wtm_at "mine q_pu"
  wtm_at "mine q_pu"
  wtm_at "mine q_pu"
  wtm_at "mine ck"
  refine e_bind ?_
  wtm_at "mine ck"
  refine e_bind ?_
  wtm_at "mine ck"
  refine e_bind ?_
  wtm_at "mine q_bF"
  wtm_at "mine q_pu"
  wtm_at "mine q_pu"
  wtm_at "mine q_pu"
  wtm_at "mine q_pu"
  wtm_at "mine q_ag"
  refine f_own 99 (by kernel_rfl) rfl ?_
  refine f_own 101 (by kernel_rfl) rfl ?_
  refine f_own 99 (by kernel_rfl) rfl ?_
  refine f_own 101 (by kernel_rfl) rfl ?_
  refine f_own 101 (by kernel_rfl) rfl ?_
  refine f_own 106 (by kernel_rfl) rfl ?_
  wtm_at "mine q_cc"
  wtm_at "mine q_al"
  wtm_at "mine q_ag"
  refine f_own 106 (by kernel_rfl) rfl ?_
  wtm_at "mine gw"
  refine e_brT (by rw [Bool.or_eq_true, Bool.or_eq_true]; exact .inl (.inr (by kernel_rfl))) ?_
  refine f_own 106 (by kernel_rfl) rfl ?_
  refine f_own 155 (by kernel_rfl) rfl ?_
  refine f_own 155 (by kernel_rfl) rfl ?_
  refine' f_upd 155 ?h ?ho ?hf ?hn ?hr ?_
  wtm_at "mine q_upr"
  refine f_own 155 (by kernel_rfl) rfl ?_
  wtm_at "mine q_dn"
  refine f_own 155 (by kernel_rfl) rfl ?_
  wtm_at "mine ck"
  refine e_bind ?_
  wtm_at "mine ck"
  refine e_bind ?_
  wtm_at "mine ck"
  refine e_bind ?_
  wtm_at "mine ck"
  refine e_bind ?_
  wtm_at "mine q_pu"
  wtm_at "mine ck"
  refine e_bind ?_
  wtm_at "mine q_pu"
  wtm_at "mine gw"
  rw [zid ?zh]
  case zh => kernel_rfl
  wtm_at "mine q_pu"
  wtm_at "mine q_pu"
  wtm_at "mine ck"
  refine e_bind ?_
  wtm_at "mine ck"
  refine e_bind ?_
  wtm_at "mine q_bF"
  wtm_at "mine q_pu"
  wtm_at "mine q_pu"
  wtm_at "mine q_pu"
  wtm_at "mine q_al"
  wtm_at "mine q_bF"
  wtm_at "mine ck"
  refine e_bind ?_
  wtm_at "mine q_bF"
  wtm_at "mine q_pu"
  wtm_at "mine q_bF"
  refine f_own 156 (by kernel_rfl) rfl ?_
  refine f_own 156 (by kernel_rfl) rfl ?_
  refine f_own 156 (by kernel_rfl) rfl ?_
  wtm_at "mine q_al"
  refine' f_upd 157 ?h ?ho ?hf ?hn ?hr ?_
  wtm_at "mine q_upr"
  refine' f_upd 157 ?h ?ho ?hf ?hn ?hr ?_
  wtm_at "mine q_upr"
  refine' f_upd 157 ?h ?ho ?hf ?hn ?hr ?_
  wtm_at "mine q_upr"
  refine f_own 156 (by kernel_rfl) rfl ?_
  refine' f_upd 156 ?h ?ho ?hf ?hn ?hr ?_
  wtm_at "mine q_upr"
  refine f_own 156 (by kernel_rfl) rfl ?_
  refine f_own 156 (by kernel_rfl) rfl ?_
  refine f_own 156 (by kernel_rfl) rfl ?_
  refine f_own 156 (by kernel_rfl) rfl ?_
  refine f_own 156 (by kernel_rfl) rfl ?_
  wtm_at "mine ck"
  refine e_bind ?_
  wtm_at "mine q_pu"
  wtm_at "mine ck"
  refine e_bind ?_
  wtm_at "mine q_pu"
  wtm_at "mine ck"
  refine e_bind ?_
  wtm_at "mine q_pu"
  wtm_at "mine ck"
  refine e_bind ?_
  wtm_at "mine gw"
  refine e_anyM (by exact rfl) flt_self ?_
  wtm_at "mine q_pu"
  refine f_own 157 (by kernel_rfl) rfl ?_
  refine' f_upd 157 ?h ?ho ?hf ?hn ?hr ?_
  wtm_at "mine q_upr"
  refine f_own 157 (by kernel_rfl) rfl ?_
  wtm_at "mine ck"
  refine e_bind ?_
  wtm_at "mine ck"
  refine e_bind ?_
  wtm_at "mine ck"
  refine e_bind ?_
  wtm_at "mine q_bF"
  wtm_at "mine q_pu"
  wtm_at "mine q_pu"
  wtm_at "mine q_pu"
  refine' f_upd 157 ?h ?ho ?hf ?hn ?hr ?_
  wtm_at "mine q_upr"
  refine f_own 157 (by kernel_rfl) rfl ?_
  refine f_own 157 (by kernel_rfl) rfl ?_
  refine f_own 157 (by kernel_rfl) rfl ?_
  refine f_own 156 (by kernel_rfl) rfl ?_
  wtm_at "mine ck"
  refine e_bind ?_
  wtm_at "mine q_bF"
  wtm_at "mine q_pu"
  refine f_own 156 (by kernel_rfl) rfl ?_
  wtm_at "mine q_fr"
  wtm_at "mine q_al"
  refine f_own 156 (by kernel_rfl) rfl ?_
  wtm_at "mine q_fr"
  refine f_own 156 (by kernel_rfl) rfl ?_
  refine' f_upd 156 ?h ?ho ?hf ?hn ?hr ?_
  wtm_at "mine q_upr"
  refine f_own 157 (by kernel_rfl) rfl ?_
  refine' f_upd 157 ?h ?ho ?hf ?hn ?hr ?_
  wtm_at "mine q_upr"
  refine f_own 157 (by kernel_rfl) rfl ?_
  refine' f_upd 157 ?h ?ho ?hf ?hn ?hr ?_
  wtm_at "mine q_upr"
  refine f_own 156 (by kernel_rfl) rfl ?_
  wtm_at "mine q_fr"
  refine f_own 156 (by kernel_rfl) rfl ?_
  refine' f_upd 156 ?h ?ho ?hf ?hn ?hr ?_
  wtm_at "mine q_upr"
  refine f_own 156 (by kernel_rfl) rfl ?_
  refine f_own 156 (by kernel_rfl) rfl ?_
  refine f_own 156 (by kernel_rfl) rfl ?_
  refine f_own 156 (by kernel_rfl) rfl ?_
  refine f_own 106 (by kernel_rfl) rfl ?_
  refine f_own 113 (by kernel_rfl) rfl ?_
  refine f_own 121 (by kernel_rfl) rfl ?_
  refine f_own 129 (by kernel_rfl) rfl ?_
  refine f_own 137 (by kernel_rfl) rfl ?_
  refine f_own 145 (by kernel_rfl) rfl ?_
  refine f_own 153 (by kernel_rfl) rfl ?_
  refine f_own 154 (by kernel_rfl) rfl ?_
  refine f_own 158 (by kernel_rfl) rfl ?_
  wtm_at "mine q_cc"
  wtm_at "mine q_ag"
  refine f_own 157 (by kernel_rfl) rfl ?_
  wtm_at "mine ck"
  refine e_bind ?_
  wtm_at "mine q_pu"
  wtm_at "mine ck"
  refine e_bind ?_
  wtm_at "mine ck"
  refine e_bind ?_
  wtm_at "mine ck"
  refine e_bind ?_
  wtm_at "mine q_bF"
  wtm_at "mine q_pu"
  wtm_at "mine q_pu"
  wtm_at "mine q_pu"
  wtm_at "mine q_cc"
  wtm_at "mine ck"
  refine e_bind ?_
  wtm_at "mine ck"
  refine e_bind ?_
  wtm_at "mine ck"
  refine e_bind ?_
  wtm_at "mine ck"
  refine e_bind ?_
  wtm_at "mine ck"
  refine e_bind ?_
  wtm_at "mine ck"
  refine e_bind ?_
  wtm_at "mine ck"
  refine e_bind ?_
  wtm_at "mine q_bF"
  wtm_at "mine q_pu"
  wtm_at "mine q_pu"
  wtm_at "mine q_pu"
  wtm_at "mine q_pu"
  wtm_at "mine q_pu"
  wtm_at "mine q_pu"
  wtm_at "mine ck"
  refine e_bind ?_
  wtm_at "mine ck"
  refine e_bind ?_
  wtm_at "mine ck"
  refine e_bind ?_
  wtm_at "mine q_bF"
  wtm_at "mine q_pu"
  wtm_at "mine q_pu"
  wtm_at "mine q_pu"
  wtm_at "mine q_pu"
  wtm_at "mine q_ag"
  wtm_at "mine q_al"
  wtm_at "mine q_dn"
  refine f_own 159 (by kernel_rfl) rfl ?_
  refine f_own 159 (by kernel_rfl) rfl ?_
  wtm_at "mine q_cc"
  refine f_own 159 (by kernel_rfl) rfl ?_
  wtm_at "mine q_ag"
  refine f_own 157 (by kernel_rfl) rfl ?_
  refine f_own 157 (by kernel_rfl) rfl ?_
  refine f_own 157 (by kernel_rfl) rfl ?_
  wtm_at "mine ck"
  refine e_bind ?_
  wtm_at "mine q_bT"
  wtm_at "mine q_pu"
  refine f_own 159 (by kernel_rfl) rfl ?_
  refine' f_upd 159 ?h ?ho ?hf ?hn ?hr ?_
  wtm_at "mine q_upr"
  refine f_own 159 (by kernel_rfl) rfl ?_
  refine' f_upd 159 ?h ?ho ?hf ?hn ?hr ?_
  wtm_at "mine q_upr"
  refine f_own 159 (by kernel_rfl) rfl ?_
  refine' f_upd 159 ?h ?ho ?hf ?hn ?hr ?_
  wtm_at "mine q_upr"
  wtm_at "mine q_dn"
  wtm_at "mine q_dn"
  wtm_at "mine q_fr"
  refine f_own 159 (by kernel_rfl) rfl ?_
  wtm_at "mine q_cc"
  refine f_own 159 (by kernel_rfl) rfl ?_
  wtm_at "mine q_ag"
  refine f_own 159 (by kernel_rfl) rfl ?_
  refine f_own 159 (by kernel_rfl) rfl ?_
  refine f_own 159 (by kernel_rfl) rfl ?_
  refine f_base (by kernel_rfl) rfl (KIn.at (a := 2) K rfl (by decide)) (by wtm_at "mine g_nT") ?_
  refine f_own 157 (by kernel_rfl) rfl ?_
  wtm_at "mine ck"
  refine e_bind ?_
  wtm_at "mine gw"
  rw [drop_self (s := SZ.s2742458400755230247x6)]
  case ev => exact rfl
  case e => exact rfl
  wtm_at "mine q_cc"
  wtm_at "mine q_ag"
  wtm_at "mine ck"
  refine e_bind ?_
  wtm_at "mine gw"
  refine e_brF (by rw [Bool.and_eq_false_iff]; exact .inr (by kernel_rfl)) ?_
  wtm_at "mine q_pu"
  refine f_own 157 (by kernel_rfl) rfl ?_
  refine f_own 157 (by kernel_rfl) rfl ?_
  wtm_at "mine q_al"
  wtm_at "mine q_dn"
  wtm_at "mine q_pu"
  wtm_at "mine q_dn"
  wtm_at "mine q_cc"
  refine f_own 160 (by kernel_rfl) rfl ?_
  refine f_own 157 (by kernel_rfl) rfl ?_
  refine f_own 157 (by kernel_rfl) rfl ?_
  refine f_own 157 (by kernel_rfl) rfl ?_
  refine f_own 157 (by kernel_rfl) rfl ?_
  wtm_at "mine q_ag"
  wtm_at "mine q_dn"
  wtm_at "mine q_dn"
  refine f_own 157 (by kernel_rfl) rfl ?_
  refine f_own 157 (by kernel_rfl) rfl ?_
  wtm_at "mine q_cc"
  refine f_own 157 (by kernel_rfl) rfl ?_
  wtm_at "mine q_ag"
  wtm_at "mine q_dn"
  wtm_at "mine q_dn"
  wtm_at "mine q_pu"
  wtm_at "mine q_fr"
  refine f_own 97 (by kernel_rfl) rfl ?_
  refine' f_upd 97 ?h ?ho ?hf ?hn ?hr ?_
  wtm_at "mine q_upr"
  wtm_at "mine q_pu"
  refine f_own 97 (by kernel_rfl) rfl ?_
  wtm_at "mine q_pu"
  wtm_at "mine q_dn"
  refine' f_end (a := .ref (ad X 157)) ?z fun h D => ?_
  case z => kernel_rfl
  refine cmp_fin D q ?_ ⟨_, D.tab 16 _ rfl⟩
  exact {
    fk := D.new 157 rfl
    fn := D.new 156 rfl
    fm := D.new 158 rfl
    fce := D.new 98 rfl
    ek := D.cell 157 _ (by kernel_rfl)
    en := D.cell 156 _ (by kernel_rfl)
    em := D.cell 158 _ (by kernel_rfl)
    ece := cell_at (D.cell 98 _ rfl) (by kernel_rfl)
    ff0 := D.new 113 rfl
    fc0 := D.new 112 rfl
    ef0 := D.cell 113 _ (by kernel_rfl)
    ec0 := code_at (D.cell 112 _ rfl) rfl (by kernel_rfl)
    ff1 := D.new 121 rfl
    fc1 := D.new 120 rfl
    ef1 := D.cell 121 _ (by kernel_rfl)
    ec1 := code_at (D.cell 120 _ rfl) rfl (by kernel_rfl)
  }

end
def objEs (o : Obj) : Array DictEntry := match o.data with | .dict es _ => es | _ => #[]
def keysOk (es : Array DictEntry) : Bool := es.toList.all fun e => match e.key with | .str .. => true | _ => false
theorem strKeys_of {es : Array DictEntry} (h : keysOk es = true) : StrKeys es := by
  intro e he
  have := List.all_eq_true.mp h e (Array.mem_toList_iff.mpr he)
  cases q : e.key <;> rw [q] at this <;> first | exact ⟨_, _, rfl⟩ | cases this
noncomputable def gl (P : Params) : Str → Option Value := nsFind (objEs (zo3 P))
noncomputable def bi (P : Params) : Str → Option Value := nsFind (objEs (zo0 P))
theorem ns_of {h : Heap} {a : Addr} {o : Obj} {es : Array DictEntry} {ep : Nat} (e : h.get? a = some o) (hd : o.data = .dict es ep) (hk : keysOk es = true) : h.Ns a (nsFind (objEs o)) :=
  ⟨_, _, _, e, hd, strKeys_of hk, fun _ => by unfold objEs; rw [hd]⟩
theorem gl_ns {P : Params} {h : Heap} (K : KIn P h) : h.Ns mainGlobals (gl P) := ns_of (K 3 _ rfl (by decide)) rfl (by kernel_rfl)
theorem bi_ns {P : Params} {h : Heap} (K : KIn P h) : h.Ns builtinsNs (bi P) := ns_of (K 0 _ rfl (by decide)) rfl (by kernel_rfl)
theorem nolim {P : Params} {h : Heap} (K : KIn P h) : h.NoLimit := ⟨_, ns_of (K 2 _ rfl (by decide)) rfl (by kernel_rfl), by kernel_rfl⟩
theorem blt {P : Params} {h : Heap} (K : KIn P h) : ∃ o, h.get? 4 = some o ∧ o.cls = .type "module" ∧ o.dict = some builtinsNs ∧ o.data = .plain :=
  ⟨_, K 4 _ rfl (by decide), by kernel_rfl, by kernel_rfl, by kernel_rfl⟩
theorem glcmp_to_key {P : Params} : gl P (Str.ofString "cmp_to_key") = some (.ref 21) := by kernel_rfl
theorem glinitial_missing {P : Params} : gl P (Str.ofString "_initial_missing") = some (.ref 22) := by kernel_rfl
theorem glreduce {P : Params} : gl P (Str.ofString "reduce") = some (.ref 30) := by kernel_rfl
theorem glsearch_reverse {P : Params} : gl P (Str.ofString "search_reverse") = some (.ref 37) := by kernel_rfl
theorem gllaw_hit {P : Params} : gl P (Str.ofString "_law_hit") = some (.ref 44) := by kernel_rfl
theorem gllaw_program {P : Params} : gl P (Str.ofString "_law_program") = some (.ref 51) := by kernel_rfl
theorem gllaw_dealt {P : Params} : gl P (Str.ofString "_law_dealt") = some (.ref 58) := by kernel_rfl
theorem gllaw_later {P : Params} : gl P (Str.ofString "_law_later") = some (.ref 65) := by kernel_rfl
theorem gllaw_end {P : Params} : gl P (Str.ofString "_law_end") = some (.ref 72) := by kernel_rfl
theorem gllaw_step {P : Params} : gl P (Str.ofString "_law_step") = some (.ref 79) := by kernel_rfl
theorem gllaw_fits {P : Params} : gl P (Str.ofString "_law_fits") = some (.ref 86) := by kernel_rfl
theorem gllaw_greatest {P : Params} : gl P (Str.ofString "_law_greatest") = some (.ref 91) := by kernel_rfl
theorem gn_sorted {P : Params} : gl P (Str.ofString "sorted") = none := by kernel_rfl
theorem bi_sorted {P : Params} : bi P (Str.ofString "sorted") = some (.builtin "sorted") := by kernel_rfl
theorem gn_max {P : Params} : gl P (Str.ofString "max") = none := by kernel_rfl
theorem bi_max {P : Params} : bi P (Str.ofString "max") = some (.builtin "max") := by kernel_rfl
theorem gn_len {P : Params} : gl P (Str.ofString "len") = none := by kernel_rfl
theorem bi_len {P : Params} : bi P (Str.ofString "len") = some (.builtin "len") := by kernel_rfl
theorem gn_sum {P : Params} : gl P (Str.ofString "sum") = none := by kernel_rfl
theorem bi_sum {P : Params} : bi P (Str.ofString "sum") = some (.builtin "sum") := by kernel_rfl
theorem gn_abs {P : Params} : gl P (Str.ofString "abs") = none := by kernel_rfl
theorem bi_abs {P : Params} : bi P (Str.ofString "abs") = some (.builtin "abs") := by kernel_rfl
theorem gn_iter {P : Params} : gl P (Str.ofString "iter") = none := by kernel_rfl
theorem bi_iter {P : Params} : bi P (Str.ofString "iter") = some (.builtin "iter") := by kernel_rfl
theorem gn_next {P : Params} : gl P (Str.ofString "next") = none := by kernel_rfl
theorem bi_next {P : Params} : bi P (Str.ofString "next") = some (.builtin "next") := by kernel_rfl
theorem gn_range {P : Params} : gl P (Str.ofString "range") = none := by kernel_rfl
theorem bi_range {P : Params} : bi P (Str.ofString "range") = some (.type "range") := by kernel_rfl
theorem gn_object {P : Params} : gl P (Str.ofString "object") = none := by kernel_rfl
theorem bi_object {P : Params} : bi P (Str.ofString "object") = some (.type "object") := by kernel_rfl
local macro_rules | `(tactic| wtm_at "mine m_gl") => `(tactic| first
  | with_reducible exact glcmp_to_key
  | with_reducible exact glinitial_missing
  | with_reducible exact glreduce
  | with_reducible exact glsearch_reverse
  | with_reducible exact gllaw_hit
  | with_reducible exact gllaw_program
  | with_reducible exact gllaw_dealt
  | with_reducible exact gllaw_later
  | with_reducible exact gllaw_end
  | with_reducible exact gllaw_step
  | with_reducible exact gllaw_fits
  | with_reducible exact gllaw_greatest)
local macro_rules | `(tactic| wtm_at "mine m_gn") => `(tactic| first
  | with_reducible exact gn_sorted
  | with_reducible exact gn_max
  | with_reducible exact gn_len
  | with_reducible exact gn_sum
  | with_reducible exact gn_abs
  | with_reducible exact gn_iter
  | with_reducible exact gn_next
  | with_reducible exact gn_range
  | with_reducible exact gn_object)
local macro_rules | `(tactic| wtm_at "mine m_bi") => `(tactic| first
  | with_reducible exact bi_sorted
  | with_reducible exact bi_max
  | with_reducible exact bi_len
  | with_reducible exact bi_sum
  | with_reducible exact bi_abs
  | with_reducible exact bi_iter
  | with_reducible exact bi_next
  | with_reducible exact bi_range
  | with_reducible exact bi_object)

abbrev sp16 : Spec := [((4, 4), "cmp_to_key.<locals>.K")]
abbrev sp39 : Spec := [((58, 10), "_law_hit.<locals>.<lambda>"), ((59, 15), "_law_hit.<locals>.<lambda>")]
abbrev sp46 : Spec := [((64, 4), "_law_program.<locals>.search"), ((70, 11), "_law_program.<locals>.<lambda>")]
abbrev sp74 : Spec := [((89, 4), "_law_step.<locals>.step")]
def TS : List (Addr × Spec) := [(39, sp39), (46, sp46), (74, sp74)]
abbrev Ext := ExtT Tb
abbrev Tabs := TabsT TS Tb
def NoCode (dd : Obj → Prop) : Prop := ∀ o vs q t, dd o → o.data = .fields vs → vs[1]? ≠ some (.str q t)
theorem nc_ns {m} : NoCode (dNs m) := fun o vs q t h e => by obtain ⟨es, ep, h, _⟩ := h; rw [h] at e; cases e
theorem nc_cell {v} : NoCode (dCell v) := fun o vs q t h e => by rw [h] at e; cases e
theorem nc_list {v} : NoCode (dList v) := fun o vs q t h e => by obtain ⟨n, rfl⟩ := h; cases e
theorem nc_lit {l i} : NoCode (dLIt l i) := fun o vs q t h e => by rw [h.2] at e; cases e; exact fun z => by cases z
theorem nc_fields {c a b r} (hb : ∀ q t, b ≠ .str q t) : NoCode (dFields c (a :: b :: r)) := fun o vs q t h e => by
  cases h; cases e
  intro z
  exact hb q t (Option.some.inj z)
theorem nc_tup {v} : NoCode (dTup v) := fun o vs q t h e => by obtain ⟨n, rfl⟩ := h; cases e
theorem nc_fun {c dd fd sl} : NoCode (dObj ⟨c, dd, .func fd, sl⟩) := fun o vs q t h e => by cases h; cases e
theorem nc_dict {c dd es n sl} : NoCode (dObj ⟨c, dd, .dict es n, sl⟩) := fun o vs q t h e => by cases h; cases e
theorem nc_seq {c dd es n sl} : NoCode (dObj ⟨c, dd, .seq es n, sl⟩) := fun o vs q t h e => by cases h; cases e
theorem nc_plain {c dd sl} : NoCode (dObj ⟨c, dd, .plain, sl⟩) := fun o vs q t h e => by cases h; cases e
/-- the state of a frame: a base B that stands, a ledger of what the frame made and may change -/
structure St (w : World) (B h : Heap) (own : Led) : Prop where
  keep : Ext B h
  nw : ∀ p ∈ own, At h p.1 p.2 ∧ B.get? p.1 = none ∧ p.1 ∉ Tb ∧ NoCode p.2
  nd : (own.map (·.1)).Nodup
  tb : Tabs h
  kin : KIn w.params B
theorem KIn.ext {P : Params} {h h' : Heap} (K : KIn P h) (x : Ext h h') : KIn P h' := fun a o e t => x a o (K a o e t) (ktb t)
theorem tb_lt {P : Params} {h : Heap} (T : Tabs h) : ∀ a ∈ Tb, h.get? a ≠ none := by
  intro a ha
  have : ∀ a ∈ Tb, ∃ e ∈ TS, e.1 = a := by decide
  obtain ⟨e, he, rfl⟩ := this a ha
  obtain ⟨ps, h1, _⟩ := T e he
  rw [h1]; exact fun q => nomatch q
section
variable {w : World} {B h h' : Heap} {own own' : Led} {a : Addr} {dd dd' : Obj → Prop}
theorem St.mem (S : St w B h own) (m : LMem a dd own) : At h a dd := (S.nw _ m.mem).1
theorem St.old (S : St w B h own) (x : At B a dd) (q : a ∉ Tb) : At h a dd := x.ext S.keep q
theorem St.kinh (S : St w B h own) : KIn w.params h := S.kin.ext S.keep
theorem fresh_get {h : Heap} : h.get? h.objs.size = none := by
  cases q : h.get? h.objs.size with
  | none => rfl
  | some o => exact absurd (Heap.lt_size q) (Nat.lt_irrefl _)
theorem St.fresh (S : St w B h own) : B.get? h.objs.size = none ∧ h.objs.size ∉ Tb ∧ h.objs.size ∉ own.map (·.1) := by
  have hT : h.objs.size ∉ Tb := fun hm => tb_lt (P := w.params) S.tb _ hm fresh_get
  refine ⟨?_, hT, fun hm => ?_⟩
  · cases q : B.get? h.objs.size with
    | none => rfl
    | some o => have := S.keep _ _ q hT; rw [fresh_get] at this; cases this
  · obtain ⟨p, hp, e⟩ := List.mem_map.mp hm
    have := (S.nw p hp).1.lt
    rw [e] at this
    exact Nat.lt_irrefl _ this
theorem ts_tb : ∀ e ∈ TS, e.1 ∈ Tb := by decide
theorem St.alloc (S : St w B h own) {o : Obj} (hd : dd o) (nc : NoCode dd) (hf : o.isFreed = false) : St w B (h.push o) ((h.objs.size, dd) :: own) := by
  obtain ⟨f1, f2, f3⟩ := S.fresh
  refine ⟨S.keep.push o, fun p hp => ?_, ?_, S.tb.stays ts_tb (fun b o' e _ => Heap.get?_push_of_some _ e) (ExtT.all fun b o' e => Heap.get?_push_of_some _ e), S.kin⟩
  · rcases List.mem_cons.mp hp with rfl | hp
    · exact ⟨⟨o, Heap.get?_push_size _ hf, hd⟩, f1, f2, nc⟩
    · exact ⟨(S.nw p hp).1.keeps fun b o' e => Heap.get?_push_of_some _ e, (S.nw p hp).2⟩
  · rw [List.map_cons, List.nodup_cons]
    exact ⟨f3, S.nd⟩
/-- a change of one cell of the ledger -/
theorem St.upd (S : St w B h own) (u : LUp a dd dd' own own') (nc' : NoCode dd') (hs : Heap.SameBut a h h') (hd : At h' a dd') : St w B h' own' := by
  obtain ⟨z1, z2, z3, nc⟩ := S.nw _ u.mem
  refine ⟨fun b o e q => (hs.2 b ?_).trans (S.keep b o e q), fun p hp => ?_, by rw [u.keys]; exact S.nd, ?_, S.kin⟩
  · rintro rfl
    rw [z2] at e; cases e
  · rcases u.back S.nd p hp with rfl | ⟨hp, ne⟩
    · exact ⟨hd, z2, z3, nc'⟩
    · exact ⟨(S.nw p hp).1.same hs ne, (S.nw p hp).2⟩
  · have k : ∀ b o, h.get? b = some o → b ∈ Tb → h'.get? b = some o := fun b o e hb => (hs.2 b fun q => z3 (q ▸ hb)).trans e
    intro e he
    obtain ⟨ps, h1, h2, h3⟩ := S.tb e he
    refine ⟨ps, k _ _ h1 (ts_tb e he), h2, fun s hs' p cv hl hcol hc => ?_⟩
    obtain ⟨c, rfl, hT, hr⟩ := h3 s hs' p cv hl hcol hc
    refine ⟨c, rfl, hT, ?_⟩
    obtain ⟨c', o, vs, t, e', g, d, r⟩ := hr
    cases e'
    by_cases hca : c = a
    · subst hca
      obtain ⟨o', e1, e2⟩ := (S.nw _ u.mem).1
      rw [e1] at g; cases g
      exact absurd r (nc _ _ _ _ e2 d)
    · exact ⟨c, o, vs, t, rfl, (hs.2 c hca).trans g, d, r⟩
def New (h h' : Heap) (new : Led) : Prop := ∀ p ∈ new, At h' p.1 p.2 ∧ h.get? p.1 = none ∧ p.1 ∉ Tb ∧ NoCode p.2
/-- a call came back: all that stood stands, the tables are in some good state, new things are there -/
theorem St.call {new : Led} (S : St w B h own) (x : Ext h h') (T : Tabs h') (hn : New h h' new) (nd : (new.map (·.1)).Nodup) : St w B h' (new ++ own) := by
  refine ⟨S.keep.trans x, fun p hp => ?_, ?_, T, S.kin⟩
  · rcases List.mem_append.mp hp with hp | hp
    · refine ⟨(hn p hp).1, ?_, (hn p hp).2.2⟩
      cases q : B.get? p.1 with
      | none => rfl
      | some o => have := S.keep _ _ q (hn p hp).2.2.1; rw [(hn p hp).2.1] at this; cases this
    · exact ⟨(S.nw p hp).1.ext x (S.nw p hp).2.2.1, (S.nw p hp).2⟩
  · rw [List.map_append, List.nodup_append]
    refine ⟨nd, S.nd, fun a ha b hb e => ?_⟩
    obtain ⟨p, hp, rfl⟩ := List.mem_map.mp ha
    obtain ⟨q, hq, rfl⟩ := List.mem_map.mp hb
    exact (S.nw q hq).1.nn (e ▸ (hn p hp).2.1)
theorem St.call0 (S : St w B h own) (x : Ext h h') (T : Tabs h') : St w B h' own := S.call (new := []) x T (fun _ hp => nomatch hp) .nil
/-- an untold part of the ledger goes into the base -/
theorem St.freeze {new : Led} (S : St w B h (new ++ own)) : ∃ B', (∀ b o, B.get? b = some o → b ∉ Tb → B'.get? b = some o) ∧ (∀ p ∈ new, At B' p.1 p.2) ∧ St w B' h own ∧ (∀ b o, h.get? b = some o → b ∉ own.map (·.1) → b ∉ Tb → B'.get? b = some o) := by
  have hh : ∀ b o, h.get? b = some o → b ∉ own.map (·.1) → (hideAll h (own.map (·.1))).get? b = some o := fun b o e q => hideAll_get _ e q
  have nd := S.nd
  rw [List.map_append, List.nodup_append] at nd
  refine ⟨hideAll h (own.map (·.1)), fun b o e q => hh b o (S.keep b o e q) fun hm => ?_, fun p hp => ?_, ⟨fun b o e q => of_hideAll _ e, fun p hp => ?_, nd.2.1, S.tb, ?_⟩, fun b o e q _ => hh b o e q⟩
  · obtain ⟨p, hp, rfl⟩ := List.mem_map.mp hm
    rw [(S.nw p (List.mem_append_right _ hp)).2.1] at e; cases e
  · obtain ⟨o, e, r⟩ := (S.nw p (List.mem_append_left _ hp)).1
    exact ⟨o, hh _ _ e fun hm => nd.2.2 _ (List.mem_map_of_mem hp) _ hm rfl, r⟩
  · exact ⟨(S.nw p (List.mem_append_right _ hp)).1, hideAll_none _ (List.mem_map_of_mem hp), (S.nw p (List.mem_append_right _ hp)).2.2⟩
  · intro a o e t
    refine hh _ _ (S.kinh a o e t) fun hm => ?_
    obtain ⟨p, hp, rfl⟩ := List.mem_map.mp hm
    have := S.kin p.1 o e t
    rw [(S.nw p (List.mem_append_right _ hp)).2.1] at this; cases this
end
section
variable {w : World} {A : Around} {E : Value → Shared → Prop} {B h : Heap} {g : Array GenState} {d : Drawn} {t : Nat} {os : OsState} {own own' : Led} {a L : Addr}
variable {cn : Str} {cs : Scope} {cd : Value} {cl : List (Str × Addr)} {x : Str} {pos : Pos} {v : Value} {l : List (Str × Value)} {c f : Addr} {Q : Value → Shared → Prop}
abbrev wpM (w : World) (A : Around) {α : Type} (m : Sem α) (Q : α → Shared → Prop) (E : Value → Shared → Prop) (s : Shared) : Prop := wpAny (model Pr w) A m Q E s
theorem r_local (S : St w B h own) (hm : LMem L (dNs (lk l)) own) (hv : lk l x = some v) (q : Q v ⟨h, g, d, t, os⟩)
    (hk : cs.kind = .function := by rfl) (hx : (envX cn cs L f cd cl).kindOf x = some .local := by rfl) (hb : (x == ("__debug__" : Str)) = false := by decide) :
    wpM w A (eval (.Name x pos) (envX cn cs L f cd cl)) Q E ⟨h, g, d, t, os⟩ := wpAny_Name (wpAny_loadName_local hk hx (S.mem hm).ns hv q) hb
theorem r_cell (hc : cl.lookup x = some c) (hm : At h c (dCell (some v))) (q : Q v ⟨h, g, d, t, os⟩)
    (hk : cs.kind = .function := by rfl) (hx : (envX cn cs L f cd cl).kindOf x = some .cell := by rfl) (hb : (x == ("__debug__" : Str)) = false := by decide) :
    wpM w A (eval (.Name x pos) (envX cn cs L f cd cl)) Q E ⟨h, g, d, t, os⟩ := wpAny_Name (wpAny_loadName_cell hk hx hc hm.cell q) hb
theorem r_free (hc : cl.lookup x = some c) (hm : At h c (dCell (some v))) (q : Q v ⟨h, g, d, t, os⟩)
    (hk : cs.kind = .function := by rfl) (hx : (envX cn cs L f cd cl).kindOf x = some .free := by rfl) (hb : (x == ("__debug__" : Str)) = false := by decide) (hn : (x == ("__classdict__" : Str)) = false := by decide) :
    wpM w A (eval (.Name x pos) (envX cn cs L f cd cl)) Q E ⟨h, g, d, t, os⟩ := wpAny_Name (wpAny_loadName_free hk hx hc hm.cell q hn) hb
theorem r_glob (S : St w B h own) (hv : gl w.params x = some v) (q : Q v ⟨h, g, d, t, os⟩)
    (hk : cs.kind = .function := by rfl) (hx : (envX cn cs L f cd cl).kindOf x = some .globalImplicit := by rfl) (hb : (x == ("__debug__" : Str)) = false := by decide) :
    wpM w A (eval (.Name x pos) (envX cn cs L f cd cl)) Q E ⟨h, g, d, t, os⟩ := Name_function_global hk hx (loadGlobal_global (env := envX cn cs L f cd cl) (gl_ns S.kinh) hv q) hb
theorem r_built (S : St w B h own) (hn : gl w.params x = none) (hv : bi w.params x = some v) (q : Q v ⟨h, g, d, t, os⟩)
    (hk : cs.kind = .function := by rfl) (hx : (envX cn cs L f cd cl).kindOf x = some .globalImplicit := by rfl) (hb : (x == ("__debug__" : Str)) = false := by decide) :
    wpM w A (eval (.Name x pos) (envX cn cs L f cd cl)) Q E ⟨h, g, d, t, os⟩ := Name_function_global hk hx (loadGlobal_builtin (env := envX cn cs L f cd cl) (gl_ns S.kinh) hn (bi_ns S.kinh) hv q) hb
theorem r_int {i : Int} {k : Nat} {env : Env} (q : ∀ t', Q (.int i t') ⟨h, g, d, t + 1, os⟩) : wpM w A (eval (.Constant (.int i) k pos) env) Q E ⟨h, g, d, t, os⟩ := wpAny_Constant_int (q _)
theorem r_store {Q : Unit → Shared → Prop} (S : St w B h own) (u : LUp L (dNs (lk l)) (dNs (lk (setL x v l))) own own') (q : ∀ h' t', St w B h' own' → Q () ⟨h', g, d, t', os⟩)
    (hk : cs.kind = .function := by rfl) (hx : (envX cn cs L f cd cl).kindOf x = some .local := by rfl) : wpM w A (storeName (envX cn cs L f cd cl) x v) Q E ⟨h, g, d, t, os⟩ :=
  wpAny_storeName_local hx ((S.nw _ u.mem).1).ns (fun h' hn hs => q h' _ (S.upd u nc_ns hs (At.of_ns (by rw [lk_setL]; exact hn))))
    (by show (cs.kind == .class || (cs.kind == .module && L != mainGlobals)) = false; rw [hk]; rfl)
theorem r_storeC {Q : Unit → Shared → Prop} {v₀ : Option Value} (S : St w B h own) (hc : cl.lookup x = some c) (u : LUp c (dCell v₀) (dCell (some v)) own own') (q : ∀ h' t', St w B h' own' → Q () ⟨h', g, d, t', os⟩)
    (hk : cs.kind = .function := by rfl) (hx : (envX cn cs L f cd cl).kindOf x = some .cell := by rfl) : wpM w A (storeName (envX cn cs L f cd cl) x v) Q E ⟨h, g, d, t, os⟩ :=
  wpAny_storeName_cell hk hx hc (S.nw _ u.mem).1 (fun h' hn hs => q h' _ (S.upd u nc_cell hs hn))
/-- what a contract says of a call -/
def Does (w : World) (A : Around) {α : Type} (m : Sem α) (h : Heap) (Post : α → Led → Heap → Prop) : Prop :=
  ∀ (Q : α → Shared → Prop) (E : Value → Shared → Prop) (g : Array GenState) (d : Drawn) (t : Nat) (os : OsState),
    (∀ v new h' t', Ext h h' → Tabs h' → New h h' new → (new.map (·.1)).Nodup → Post v new h' → Q v ⟨h', g, d, t', os⟩) → wpM w A m Q E ⟨h, g, d, t, os⟩
structure AOk (A : Around) (n u : Nat) : Prop where
  hd : A.handled = none
  dp : A.depth ≤ n
  un : A.units ≤ u
theorem AOk.in1 {n u : Nat} (a : AOk A n u) : AOk A.in1 n (u + 1) := ⟨a.hd, a.dp, Nat.succ_le_succ a.un⟩
theorem AOk.deeper {n u : Nat} {env : Env} (a : AOk A n u) : AOk (A.deeper env) (n + 1) (u + 3) := ⟨a.hd, Nat.succ_le_succ a.dp, Nat.add_le_add_right a.un 3⟩
theorem AOk.le {n u n' u' : Nat} (a : AOk A n u) (hn : n ≤ n' := by omega) (hu : u ≤ u' := by omega) : AOk A n' u' := ⟨a.hd, Nat.le_trans a.dp hn, Nat.le_trans a.un hu⟩
theorem AOk.mark {n u : Nat} (a : AOk A n u) : AOk (A.mark none) n u := ⟨a.hd, a.dp, a.un⟩
/-- the end of a frame: what it made goes -/
theorem back {α : Type} {Post : α → Led → Heap → Prop} {h₀ h' : Heap} {new rest : Led} {v : α} {Q : α → Shared → Prop} {t' : Nat} (S : St w h₀ h' (new ++ rest))
    (q : ∀ v new h' t', Ext h₀ h' → Tabs h' → New h₀ h' new → (new.map (·.1)).Nodup → Post v new h' → Q v ⟨h', g, d, t', os⟩) (hp : Post v new h') : Q v ⟨h', g, d, t', os⟩ := by
  have nd := S.nd
  rw [List.map_append, List.nodup_append] at nd
  exact q v new h' t' S.keep S.tb (fun p hp => S.nw p (List.mem_append_left _ hp)) nd.1 hp
/-- the same where the base has grown -/
theorem backB {α : Type} {Post : α → Led → Heap → Prop} {h₀ h' : Heap} {new rest : Led} {v : α} {Q : α → Shared → Prop} {t' : Nat} (X : Ext h₀ B) (S : St w B h' (new ++ rest))
    (q : ∀ v new h' t', Ext h₀ h' → Tabs h' → New h₀ h' new → (new.map (·.1)).Nodup → Post v new h' → Q v ⟨h', g, d, t', os⟩) (hp : Post v new h') : Q v ⟨h', g, d, t', os⟩ := by
  have nd := S.nd
  rw [List.map_append, List.nodup_append] at nd
  refine q v new h' t' (X.trans S.keep) S.tb (fun p hp => ?_) nd.1 hp
  obtain ⟨z1, z2, z3, z4⟩ := S.nw p (List.mem_append_left _ hp)
  refine ⟨z1, ?_, z3, z4⟩
  cases e : h₀.get? p.1 with
  | none => rfl
  | some o => have := X _ _ e z3; rw [z2] at this; cases this
/-- the same, what is handed out is a part of the ledger, in its order -/
theorem backS {α : Type} {Post : α → Led → Heap → Prop} {h₀ h' : Heap} {new : Led} {v : α} {Q : α → Shared → Prop} {t' : Nat} (X : Ext h₀ B) (S : St w B h' own)
    (q : ∀ v new h' t', Ext h₀ h' → Tabs h' → New h₀ h' new → (new.map (·.1)).Nodup → Post v new h' → Q v ⟨h', g, d, t', os⟩) (hp : Post v new h') (hs : new.Sublist own) : Q v ⟨h', g, d, t', os⟩ := by
  refine q v new h' t' (X.trans S.keep) S.tb (fun p hp => ?_) (S.nd.sublist (hs.map _)) hp
  obtain ⟨z1, z2, z3, z4⟩ := S.nw p (hs.subset hp)
  refine ⟨z1, ?_, z3, z4⟩
  cases e : h₀.get? p.1 with
  | none => rfl
  | some o => have := X _ _ e z3; rw [z2] at this; cases this
theorem St.sub (S : St w B h own) (hs : ∀ p ∈ own', p ∈ own) (nd : (own'.map (·.1)).Nodup) : St w B h own' := ⟨S.keep, fun p hp => S.nw p (hs p hp), nd, S.tb, S.kin⟩
theorem St.tl {p : Addr × (Obj → Prop)} (S : St w B h (p :: own)) : St w B h own := S.sub (fun _ hp => .tail _ hp) (by have := S.nd; rw [List.map_cons, List.nodup_cons] at this; exact this.2)
/-- the first of the ledger changes in an unknown way and goes -/
theorem St.lose {h' : Heap} {dd : Obj → Prop} (S : St w B h ((a, dd) :: own)) (x : Heap.ExtBut a h h') : St w B h' own := by
  obtain ⟨z1, z2, z3, nc⟩ := S.nw _ (.head _)
  have nd := S.nd
  rw [List.map_cons, List.nodup_cons] at nd
  refine ⟨fun b o e q => x _ _ ?_ (S.keep b o e q), fun p hp => ⟨?_, (S.nw p (.tail _ hp)).2⟩, nd.2, ?_, S.kin⟩
  · rintro rfl
    rw [z2] at e; cases e
  · obtain ⟨o, e, r⟩ := (S.nw p (.tail _ hp)).1
    exact ⟨o, x _ _ (fun q => nd.1 (List.mem_map.mpr ⟨p, hp, q⟩)) e, r⟩
  · have k : ∀ b o, h.get? b = some o → b ∈ Tb → h'.get? b = some o := fun b o e hb => x _ _ (fun q => z3 (q ▸ hb)) e
    intro e he
    obtain ⟨ps, h1, h2, h3⟩ := S.tb e he
    refine ⟨ps, k _ _ h1 (ts_tb e he), h2, fun s hs' p cv hl hcol hc => ?_⟩
    obtain ⟨c, rfl, hT, hr⟩ := h3 s hs' p cv hl hcol hc
    refine ⟨c, rfl, hT, ?_⟩
    obtain ⟨c', o, vs, t, e', g, d, r⟩ := hr
    cases e'
    by_cases hca : c = a
    · subst hca
      obtain ⟨o', e1, e2⟩ := z1
      rw [e1] at g; cases g
      exact absurd r (nc _ _ _ _ e2 d)
    · exact ⟨c, o, vs, t, rfl, x _ _ hca g, d, r⟩
theorem lk_eq {l : List (Str × Value)} : lk (setL x v l) x = some v := by rw [lk_setL]; simp
theorem lk_ne {l : List (Str × Value)} {y : Str} (h : ¬ x = y) : lk (setL y v l) x = lk l x := by rw [lk_setL]; exact if_neg h
end

def retv : Flow → Value | .ret v => v | _ => .none
abbrev dFun (fd : FuncData) (o : Obj) : Prop := o.data = .func fd
section
variable {w : World} {A : Around} {E : Value → Shared → Prop} {h : Heap} {g : Array GenState} {d : Drawn} {t : Nat} {os : OsState} {Q : Value → Shared → Prop} {n u : Nat}
variable {name qual : Str} {params : Arguments} {body : List Stmt} {scope : Scope} {cl : List (Str × Addr)} {dV kV doc pm cdv ct : Value} {an : Option Addr} {f : Addr} {args : List Value} {binds : List (Str × Value)}
theorem ns_eq {h : Heap} {a : Addr} {m m' : Str → Option Value} (x : h.Ns a m) (e : ∀ n, m n = m' n) : h.Ns a m' := let ⟨o, es, ep, h1, h2, h3, h4⟩ := x; ⟨o, es, ep, h1, h2, h3, fun n => (h4 n).trans (e n)⟩
theorem tabs_keeps {h h' : Heap} (T : Tabs h) (k : ∀ b o, h.get? b = some o → h'.get? b = some o) : Tabs h' := T.stays ts_tb (fun b o e _ => k b o e) (ExtT.all k)
/-- a call of a def goes in (no cell of its own) -/
theorem enter {l : List (Str × Value)} (a : AOk A n u) (hn : Nat.blt n recursionLimit = true) (hf : At h f (dFun (fnX name qual params body scope cl dV kV doc pm an cdv ct))) (K : KIn w.params h) (T : Tabs h) (hcd : h.CodeRec cdv qual)
    (hb : BindsTo ⟨h, g, d, t, os⟩ (fnX name qual params body scope cl dV kV doc pm an cdv ct) ⟨args, []⟩ binds)
    (k : ∀ L h₁ t₁ A' E', AOk A' (n + 1) (u + 3) → St w h h₁ [(L, dNs (lk l))] → wpM w A' (execs body (envX qual scope L f cdv cl)) (fun fl s' => Q (retv fl) s') E' ⟨h₁, g, d, t₁, os⟩)
    (hbl : binds.reverse = l := by rfl) (hl : (binds.all fun x => decide (scope.names.lookup x.1 = some .local)) = true := by rfl) (hc : (scope.names.all fun x => x.2 != .cell) = true := by rfl)
    (hco : scope.isCoroutine = false := by rfl) (hgen : scope.isGenerator = false := by rfl) (hk : scope.kind = .function := by rfl) : wpM w A (call (.ref f) args []) Q E ⟨h, g, d, t, os⟩ := by
  obtain ⟨fo, hfo, hfd⟩ := hf
  subst hbl
  refine wpAny_call (codeAny_call_def (fd := fnX name qual params body scope cl dV kV doc pm an cdv ct) (body := body) (binds := binds) (Nat.lt_of_le_of_lt a.dp (by exact Nat.le_of_ble_eq_true hn)) hfo hfd (nolim K) hcd rfl hb
    (fun x hx => by have := List.all_eq_true.mp hc x hx; simpa using this) (locs hl) (fun h₁ hns hk₁ => ?_) hco hgen hk)
  have L0 : h.get? h.objs.size = none := fresh_get
  have LT : h.objs.size ∉ Tb := fun hm => tb_lt (P := w.params) T _ hm fresh_get
  refine wpAny_mono (k h.objs.size h₁ _ _ _ a.deeper ⟨ExtT.all hk₁, fun p hp => ?_, by simp, tabs_keeps T hk₁, K⟩) (fun fl s' q => ?_) fun _ _ e => e
  · cases hp with
    | head => exact ⟨At.of_ns hns, L0, LT, nc_ns⟩
    | tail _ hp => cases hp
  · cases fl <;> exact q
def bl (kindOf : Str → Option NameKind) : List (Str × Value) → List (Str × Value) → List (Str × Value)
  | [], l => l
  | (n, v) :: r, l => bl kindOf r (if kindOf n = some .local then setL n v l else l)
theorem bindL_bl (kindOf : Str → Option NameKind) : ∀ (b l : List (Str × Value)), bindL kindOf b (lk l) = lk (bl kindOf b l)
  | [], _ => rfl
  | (n, v) :: r, l => by
    unfold bindL bl
    by_cases hk : kindOf n = some .local
    · rw [if_pos hk, if_pos hk, ← lk_setL, bindL_bl kindOf r]
    · rw [if_neg hk, if_neg hk, bindL_bl kindOf r]
/-- a call of a def with cells of its own, closing over nothing -/
theorem enterC {cls : Nat → List (Str × Addr)} {led : Nat → Led} {l : List (Str × Value)} (a : AOk A n u) (hn : Nat.blt n recursionLimit = true) (hf : At h f (dFun (fnX name qual params body scope [] dV kV doc pm an cdv ct))) (K : KIn w.params h) (T : Tabs h) (hcd : h.CodeRec cdv qual)
    (hb : bindArgs (fnX name qual params body scope [] dV kV doc pm an cdv ct) ⟨args, []⟩ = pure binds)
    (ec : ∀ L, cellsFrom (L + 1) scope.names [] = cls L)
    (el : ∀ L, (cls L).map (fun p => (p.2, dCell (bindC (fun y => scope.names.lookup y) binds (fun _ => none) p.1))) = led L)
    (eb : bl (fun y => scope.names.lookup y) binds [] = l)
    (k : ∀ L h₁ t₁ A' E', AOk A' (n + 1) (u + 3) → St w h h₁ (led L ++ [(L, dNs (lk l))]) → wpM w A' (execs body (envX qual scope L f cdv (cls L))) (fun fl s' => Q (retv fl) s') E' ⟨h₁, g, d, t₁, os⟩)
    (hkind : ∀ L, (binds.all fun x => decide (scope.names.lookup x.1 = some .local ∨ (scope.names.lookup x.1 = some .cell ∧ ((cls L).lookup x.1).isSome = true))) = true)
    (hnd : ((cls 0).map (·.1)).Nodup := by decide)
    (hco : scope.isCoroutine = false := by rfl) (hgen : scope.isGenerator = false := by rfl) (hk : scope.kind = .function := by rfl) : wpM w A (call (.ref f) args []) Q E ⟨h, g, d, t, os⟩ := by
  obtain ⟨fo, hfo, hfd⟩ := hf
  have hnd : ∀ L, ((cls L).map (·.1)).Nodup := fun L => by
    rw [← ec, cellsFrom_names scope.names (L + 1) (0 + 1) [] [] rfl, ec]; exact hnd
  refine wpAny_call (codeAny_call_cells (fd := fnX name qual params body scope [] dV kV doc pm an cdv ct) (body := body) (binds := binds) (Nat.lt_of_le_of_lt a.dp (by exact Nat.le_of_ble_eq_true hn)) hfo hfd (nolim K) hcd rfl hb rfl
    (fun x hx => ?_) (fun s₁ X => ?_) hco hgen hk)
  · have := of_decide_eq_true (List.all_eq_true.mp (hkind h.objs.size) x hx)
    rw [← ec] at this
    exact this
  · have L0 : h.get? h.objs.size = none := fresh_get
    have LT : h.objs.size ∉ Tb := fun hm => tb_lt (P := w.params) T _ hm fresh_get
    obtain ⟨h₁, tk, rfl, hk₁⟩ := X.done
    have hkk : ∀ b o, h.get? b = some o → h₁.get? b = some o := hk₁
    have ecl : (callEnvC (fnX name qual params body scope [] dV kV doc pm an cdv ct) h.objs.size f) = envX qual scope h.objs.size f cdv (cls h.objs.size) := by
      unfold callEnvC newEnv envX
      simp only [ec]
    rw [ecl] at X ⊢
    have X1 := X.toInCall.ns
    have X2 := X.cell
    have X3 := X.apart
    have X4 := X.above
    refine wpAny_mono (k h.objs.size h₁ _ _ _ a.deeper ⟨ExtT.all hkk, fun p hp => ?_, ?_, tabs_keeps T hkk, K⟩) (fun fl s' q => ?_) fun _ _ e => e
    · rcases List.mem_append.mp hp with hp | hp
      · rw [← el] at hp
        obtain ⟨q, hq, rfl⟩ := List.mem_map.mp hp
        have lt := X4 q.1 q.2 hq
        have lt' : h.objs.size < q.2 := lt
        have hget : h.get? q.2 = none := Heap.get?_none_of_le (Nat.le_of_lt lt')
        refine ⟨X2 q.1 q.2 (lookup_of_mem_nodup (hnd _) hq), hget, fun hm => tb_lt (P := w.params) T _ hm hget, nc_cell⟩
      · cases hp with
        | head =>
          refine ⟨At.of_ns (ns_eq X1 fun nm => ?_), L0, LT, nc_ns⟩
          rw [← eb, ← bindL_bl]
          rfl
        | tail _ hp => cases hp
    · rw [List.map_append, List.nodup_append]
      refine ⟨?_, by simp, fun b hb c hc e => ?_⟩
      · rw [← el, List.map_map]
        exact List.pairwise_map.mpr (X3.imp fun hne => hne)
      · rw [← el, List.map_map] at hb
        obtain ⟨q, hq, rfl⟩ := List.mem_map.mp hb
        have lt : h.objs.size < q.2 := X4 q.1 q.2 hq
        have hc' : c = h.objs.size := by simpa using hc
        have e' : q.2 = c := e
        exact absurd (e'.trans hc') (Nat.ne_of_gt lt)
    · cases fl <;> exact q
theorem args_nil {f : Value} {Q : Args → Shared → Prop} {s : Shared} (q : Q ⟨[], []⟩ s) : wpM w A (evalArgs f true [] []) Q E s := by
  unfold evalArgs
  show wpAny (model Pr w) A (spliced [] >>= _) Q E s
  refine wpAny_bind (spliced_nil ?_)
  refine wpAny_bind (wpAny_pure ?_)
  exact wpAny_holding (wpAny_bind (wpAny_pure (wpAny_bind (wpAny_pure (wpAny_pure q)))))
theorem args_cons {f : Value} {pos : Pos} {e : Expr} {es : List Expr} {env : Env} {Q : Args → Shared → Prop} {s : Shared} (hp : wpM w A (spliced (backTo pos (starEach (e :: es) env))) (fun vs s' => Q ⟨vs, []⟩ s') E s)
    (he : starEach (e :: es) env = (false, eval e env) :: starEach es env := by rfl) :
    wpM w A (evalArgs f true (backTo pos (starEach (e :: es) env)) []) Q E s := by
  rw [he] at hp ⊢
  exact evalArgs_plain hp
/-- for x in a list that stands; J: what holds between the turns -/
theorem for_list {cs : Scope} {cn : Str} {cd : Value} {cl : List (Str × Addr)} {L f la : Addr} {x : Str} {px pos : Pos} {iter : Expr} {body : List Stmt} {B : Heap} {l : List (Str × Value)} {rest : Led} {xs : List Value} {Q : Flow → Shared → Prop}
    (J : Nat → Heap → List (Str × Value) → Led → Prop) (a : AOk A n u) (S : St w B h ((L, dNs (lk l)) :: rest)) (hla : At B la (dList xs)) (hT : la ∉ Tb) (j0 : J 0 B l rest)
    (hiter : ∀ Q' : Value → Shared → Prop, Q' (.ref la) ⟨h, g, d, t, os⟩ → wpM w A (eval iter (envX cn cs L f cd cl)) Q' E ⟨h, g, d, t, os⟩)
    (turn : ∀ i v B' l' rest' it h' t' E' (Post : Flow → Shared → Prop), xs[i]? = some v → J i B' l' rest' → Ext B B' → St w B' h' ((it, dLIt la (i + 1)) :: (L, dNs (lk (setL x v l'))) :: rest') →
      (∀ fl h'' t'' B'' l'' rest'', fl = .next ∨ fl = .cont → Ext B' B'' → St w B'' h'' ((it, dLIt la (i + 1)) :: (L, dNs (lk l'')) :: rest'') → J (i + 1) B'' l'' rest'' → Post fl ⟨h'', g, d, t'', os⟩) → (∀ s', Q .next s' → Post .brk s') → (∀ v s', Q (.ret v) s' → Post (.ret v) s') →
      wpM w A (execs body (envX cn cs L f cd cl)) Post E' ⟨h', g, d, t', os⟩)
    (done : ∀ B' l' rest' h' t', J xs.length B' l' rest' → Ext B B' → St w B' h' ((L, dNs (lk l')) :: rest') → Q .next ⟨h', g, d, t', os⟩)
    (hs : ∀ v, foldedSetIterable iter (envX cn cs L f cd cl) v = pure v := by intro _; rfl)
    (hk : cs.kind = .function := by rfl) (hx : (envX cn cs L f cd cl).kindOf x = some .local := by rfl) :
    wpM w A (exec (.For (.Name x px) iter body [] pos) (envX cn cs L f cd cl)) Q E ⟨h, g, d, t, os⟩ := by
  refine wpAny_For (hiter _ ?_) hs
  have hl : At h la (dList xs) := hla.ext S.keep hT
  refine wpAny_pyIter_list hl.list ?_
  have S1 : St w B (h.push { cls := .type "list_iterator", data := .fields #[.ref la, .int 0 0] }) ((h.objs.size, dLIt la 0) :: (L, dNs (lk l)) :: rest) := S.alloc (dd := dLIt la 0) ⟨rfl, rfl⟩ nc_lit rfl
  refine codeAny_forLoop (fun k s' => ∃ i h' t' B' l' rest', k + i = xs.length ∧ s' = ⟨h', g, d, t', os⟩ ∧ Ext B B' ∧ St w B' h' ((h.objs.size, dLIt la i) :: (L, dNs (lk l')) :: rest') ∧ J i B' l' rest') ?_ xs.length
    ⟨0, _, _, B, l, rest, rfl, rfl, ExtT.refl _ _, S1, j0⟩
  rintro k s' ⟨i, h', t', B', l', rest', hki, rfl, X, S', j⟩
  have hl' : At h' la (dList xs) := (hla.ext X hT).ext S'.keep hT
  cases hv : xs[i]? with
  | none =>
    have hi : i = xs.length := by have := List.getElem?_eq_none_iff.mp hv; omega
    subst hi
    refine wpAny_pyNext_list_end (items := xs.toArray) a.hd (S'.mem .head).lit hl'.list (by simpa using hv) fun h₂ x₂ => wpAny_execs_nil ?_
    exact done B' l' rest' h₂ t' j X (S'.lose x₂)
  | some v =>
    refine wpAny_pyNext_list_item (items := xs.toArray) (S'.mem .head).lit hl'.list (by simpa using hv) fun h₂ i₂ x₂ => ?_
    have S2 := S'.upd (dd' := dLIt la (i + 1)) .head nc_lit x₂ i₂
    refine wpAny_assign_Name (r_store S2 (.tail .head) (fun h₃ t₃ S3 => ?_) hk hx)
    have hlt : i < xs.length := (List.getElem?_eq_some_iff.mp hv).1
    refine turn i v B' l' rest' _ h₃ t₃ _ _ hv j X S3 (fun fl h₅ t₅ B₅ l₅ r₅ e X₅ S₅ j₅ => ?_) (fun _ z => z) (fun _ _ z => z)
    rcases e with rfl | rfl <;> exact ⟨k - 1, Nat.sub_lt (Nat.pos_of_ne_zero fun e => Nat.ne_of_lt hlt (by rw [← hki, e, Nat.zero_add])) Nat.one_pos, i + 1, h₅, t₅, B₅, l₅, r₅, by omega, rfl, X.trans X₅, S₅, j₅⟩
theorem ite_dec {p : Prop} [Decidable p] {X Y : Prop} (x : p → X) (y : ¬ p → Y) : if decide p = true then X else Y := by
  by_cases h : p
  · rw [if_pos (decide_eq_true h)]; exact x h
  · rw [if_neg (by rw [decide_eq_false h]; exact Bool.false_ne_true)]; exact y h
theorem ite_bool {b : Bool} {X Y : Prop} (x : b = true → X) (y : b = false → Y) : if b = true then X else Y := by
  cases b
  · exact y rfl
  · exact x rfl
theorem ite_nt {X Y : Prop} {i : Decidable ((!true) = true)} (y : Y) : @ite Prop ((!true) = true) i X Y := by rw [if_neg (by simp)]; exact y
theorem ite_nf {X Y : Prop} {i : Decidable ((!false) = true)} (x : X) : @ite Prop ((!false) = true) i X Y := by rw [if_pos (by simp)]; exact x
theorem ite_t {X Y : Prop} {i : Decidable (true = true)} (x : X) : @ite Prop (true = true) i X Y := by rw [if_pos rfl]; exact x
theorem ite_f {X Y : Prop} {i : Decidable (false = true)} (y : Y) : @ite Prop (false = true) i X Y := by rw [if_neg (by simp)]; exact y
theorem item_tup {value slice : Expr} {T : Addr} {l : List Value} {k : Int} {u : Tok} {j : Nat} {x : Value} {Q : Value → Shared → Prop} (ht : At h T (dTup l))
    (hlo : -(2 ^ 63) ≤ k) (hhi : k < 2 ^ 63) (hj : seqIndex? k l.length = some j) (hx : l[j]? = some x) (q : Q x ⟨h, g, d, t, os⟩)
    (hs : subscripted slice false (.ref T) (.int k u) = operate [.ref T, .int k u] (getItem (.ref T) (.int k u)) := by with_unfolding_all rfl) :
    wpM w A (subscriptTail value slice (.ref T) (.int k u)) Q E ⟨h, g, d, t, os⟩ := item_tupleT ht.tup hlo hhi hj hx q hs
theorem item_lst {value slice : Expr} {T : Addr} {l : List Value} {k : Int} {u : Tok} {x : Value} {Q : Value → Shared → Prop} (ht : At h T (dList l))
    (hlo : 0 ≤ k) (hhi : k < 2 ^ 63) (hx : l[k.toNat]? = some x) (q : Q x ⟨h, g, d, t, os⟩)
    (hs : subscripted slice false (.ref T) (.int k u) = operate [.ref T, .int k u] (getItem (.ref T) (.int k u)) := by with_unfolding_all rfl) :
    wpM w A (subscriptTail value slice (.ref T) (.int k u)) Q E ⟨h, g, d, t, os⟩ := 
  have hL := ht.list
  tail_any (s := ⟨h, g, d, t, os⟩) hL.typeIs slot_list_getitem.lookup (wpAny_getItem_list hL hlo hhi (by simpa using hx) q) hs
section
variable {i j : Int} {u v : Tok}
theorem o_add (q : ∀ t', Q (.int (i + j) t') ⟨h, g, d, t + 1, os⟩) : wpM w A (binaryOp .Add (.int i u) (.int j v)) Q E ⟨h, g, d, t, os⟩ := P.add_int (q _)
theorem o_sub (q : ∀ t', Q (.int (i - j) t') ⟨h, g, d, t + 1, os⟩) : wpM w A (binaryOp .Sub (.int i u) (.int j v)) Q E ⟨h, g, d, t, os⟩ := P.sub_int (q _)
theorem o_mul (q : ∀ t', Q (.int (i * j) t') ⟨h, g, d, t + 1, os⟩) (hm : IntMulOk i j := by mul_fits) : wpM w A (binaryOp .Mult (.int i u) (.int j v)) Q E ⟨h, g, d, t, os⟩ := P.mul_int (q _) hm
theorem o_mod (hj : j ≠ 0) (q : ∀ t', Q (.int (i.fmod j) t') ⟨h, g, d, t + 1, os⟩) : wpM w A (binaryOp .Mod (.int i u) (.int j v)) Q E ⟨h, g, d, t, os⟩ := mod_int' hj (q _)
theorem o_div (hj : j ≠ 0) (hp : Builtin.divisionGoesByPylong i j = false) (q : ∀ t', Q (.int (i.fdiv j) t') ⟨h, g, d, t + 1, os⟩) : wpM w A (binaryOp .FloorDiv (.int i u) (.int j v)) Q E ⟨h, g, d, t, os⟩ := floordiv_int hj (q _) (.inl hp)
theorem o_neg (q : ∀ t', Q (.int (-i) t') ⟨h, g, d, t + 1, os⟩) : wpM w A (unaryOp .USub (.int i u)) Q E ⟨h, g, d, t, os⟩ := P.neg_int (q _)
end
end
local macro_rules | `(tactic| wtm_at "mine m_lm") => `(tactic| first
  | with_reducible exact LMem.head
  | ((with_reducible refine' LMem.tail ?h); (case h => wtm_at "mine m_lm"))
  | ((with_reducible refine' LMem.app ?h _); (case h => wtm_at "mine m_lm")))
theorem sl_app {α : Type} {xs ys : List α} (zs : List α) (h : xs.Sublist ys) : xs.Sublist (zs ++ ys) := h.trans (List.sublist_append_right zs ys)
local macro_rules | `(tactic| wtm_at "mine m_sl") => `(tactic| first
  | exact List.nil_sublist _
  | exact List.Sublist.refl _
  | exact List.sublist_append_left _ _
  | with_reducible exact List.sublist_append_left _ _
  | ((refine List.Sublist.cons₂ _ ?_); wtm_at "mine m_sl")
  | ((with_reducible refine sl_app _ ?_); wtm_at "mine m_sl")
  | ((refine List.Sublist.cons _ ?_); wtm_at "mine m_sl"))
local macro_rules | `(tactic| wtm_at "mine m_lu") => `(tactic| first
  | with_reducible exact LUp.head
  | ((with_reducible refine' LUp.tail ?zzh); (case zzh => wtm_at "mine m_lu"))
  | ((with_reducible refine' LUp.app ?zzh _); (case zzh => wtm_at "mine m_lu")))
local macro_rules | `(tactic| wtm_at "mine m_tb") => `(tactic| first | assumption | decide)
set_option hygiene false in
local macro_rules | `(tactic| wtm_at "mine kn") => `(tactic| first
  | ((with_reducible refine' St.mem S ?_); wtm_at "mine m_lm")
  | ((with_reducible refine' St.old S ?zzm ?zzq); (case zzm => assumption); (case zzq => wtm_at "mine m_tb")))
local macro_rules | `(tactic| wtm_at "mine w_lk") => `(tactic| first
  | with_reducible assumption
  | with_reducible exact lk_eq
  | ((with_reducible refine Eq.trans (lk_ne ?zzne) ?_); (case zzne => decide); wtm_at "mine w_lk")
  | exact rfl)
set_option hygiene false in
local macro_rules | `(tactic| wtm_at "mine w_name") => `(tactic| first
  | ((with_reducible refine' r_local S ?zzm ?zzv ?_ ?zzk ?zzx ?zzb); (case zzk => exact rfl); (case zzx => exact rfl); (case zzb => decide); (case zzm => wtm_at "mine m_lm"); (case zzv => wtm_at "mine w_lk"))
  | ((with_reducible refine' r_free ?zzc ?zzm ?_ ?zzk ?zzx ?zzb ?zzn); (case zzk => exact rfl); (case zzx => exact rfl); (case zzb => decide); (case zzn => decide); (case zzc => exact rfl); (case zzm => wtm_at "mine kn"))
  | ((with_reducible refine' r_cell ?zzc ?zzm ?_ ?zzk ?zzx ?zzb); (case zzk => exact rfl); (case zzx => exact rfl); (case zzb => decide); (case zzc => exact rfl); (case zzm => wtm_at "mine kn"))
  | ((with_reducible refine' r_glob S ?zzv ?_ ?zzk ?zzx ?zzb); (case zzv => wtm_at "mine m_gl"); (case zzk => exact rfl); (case zzx => exact rfl); (case zzb => decide))
  | ((with_reducible refine' r_built S ?zzn ?zzv ?_ ?zzk ?zzx ?zzb); (case zzn => wtm_at "mine m_gn"); (case zzv => wtm_at "mine m_bi"); (case zzk => exact rfl); (case zzx => exact rfl); (case zzb => decide)))
set_option hygiene false in
local macro_rules | `(tactic| wtm_at "mine w_store") => `(tactic| first
  | ((with_reducible refine' r_store S ?zzu ?_ ?zzk ?zzx); (case zzk => exact rfl); (case zzx => exact rfl); (case zzu => wtm_at "mine m_lu"); clear S; intro h' t' S)
  | ((with_reducible refine' r_storeC S ?zzc ?zzu ?_ ?zzk ?zzx); (case zzk => exact rfl); (case zzx => exact rfl); (case zzc => exact rfl); (case zzu => wtm_at "mine m_lu"); clear S; intro h' t' S))
local macro_rules | `(tactic| wtm_at "mine w_ite") => `(tactic| first
  | with_reducible refine ite_t ?_ | with_reducible refine ite_f ?_ | with_reducible refine ite_nt ?_ | with_reducible refine ite_nf ?_
  | (with_reducible refine ite_dec ?_ ?_ <;> intro hc) | (with_reducible refine ite_bool ?_ ?_ <;> intro hc))
local macro_rules | `(tactic| wtm_at "mine w_op") => `(tactic| first
  | ((with_reducible refine' o_add ?_); intro t') | ((with_reducible refine' o_sub ?_); intro t')
  | ((with_reducible refine' o_mul ?_ ?zzhm); (case zzhm => mul_fits); intro t') 
  | ((with_reducible refine' o_mod ?zzhj ?_); (case zzhj => decide); intro t')
  | ((with_reducible refine' o_div ?zzhj ?zzhp ?_); (case zzhj => decide); (case zzhp => exact PyProof.noPylong_of_log2 (by decide +kernel)); intro t')
  | ((with_reducible refine' o_neg ?_); intro t')
  | with_reducible refine' P.lt_int ?_ | with_reducible refine' P.le_int ?_ | with_reducible refine' P.gt_int ?_ | with_reducible refine' P.ge_int ?_ | with_reducible refine' P.eq_int ?_ | with_reducible refine' P.ne_int ?_ | with_reducible refine' wpAny_truthy_bool ?_)
set_option hygiene false in
local macro_rules | `(tactic| wtm_at "mine w_item") => `(tactic| first
  | ((with_reducible refine' item_tup ?zza ?zzb ?zzc ?zze ?zzf ?_); (case zza => wtm_at "mine kn"); (case zzb => decide); (case zzc => decide); (case zze => exact rfl); (case zzf => exact rfl))
  | ((with_reducible refine' item_lst ?zza ?zzb ?zzc ?zze ?_); (case zza => wtm_at "mine kn"); (case zzb => decide); (case zzc => decide); (case zze => exact rfl)))
local macro_rules | `(tactic| wtm_at "mine w1") => `(tactic| first
  | wtm_at "mine w_name"
  | (with_reducible refine r_int ?_; intro t')
  | wtm_at "mine w_op"
  | with_reducible refine wpAny_execs_cons ?_
  | with_reducible refine wpAny_Return_some ?_
  | ((with_reducible refine' wpAny_Assign_Name ?_ ?zzhs); (case zzhs => exact rfl))
  | wtm_at "mine w_store"
  | with_reducible refine wpAny_BinOp ?_
  | with_reducible refine Subscript_ ?_
  | wtm_at "mine w_item"
  | with_reducible refine wpAny_If ?_
  | with_reducible refine wpAny_isTrue_Compare1 ?_
  | with_reducible refine wpAny_isTrue_BoolOp ?_
  | with_reducible refine wpAny_isTrue_Not ?_
  | with_reducible refine wpAny_allTrue_And_cons ?_
  | with_reducible refine wpAny_allTrue_Or_cons ?_
  | with_reducible refine wpAny_allTrue_And_nil ?_
  | with_reducible refine wpAny_allTrue_Or_nil ?_
  | with_reducible refine wpAny_Compare1 ?_
  | with_reducible refine wpAny_UnaryOp ?_
  | with_reducible refine wpAny_Constant_none ?_
  | with_reducible refine wpAny_Constant_bool ?_
  | with_reducible refine wpAny_execs_nil ?_
  | wtm_at "mine w_ite")

theorem fn_at {h : Heap} {a : Addr} {o : Obj} {n q : Str} {ag : Arguments} {bd : List Stmt} {sc : Scope} {cl : List (Str × Addr)} {dV kV doc pm cdv ct : Value} {an : Option Addr} (e : h.get? a = some o) (hd : o.data = .func (fnX n q ag bd sc cl dV kV doc pm an cdv ct)) : At h a (dFun (fnX n q ag bd sc cl dV kV doc pm an cdv ct)) := ⟨o, e, hd⟩
noncomputable def bd21 : { x // x = bodyOf 1 } := ⟨_, rfl⟩
noncomputable def ag21 : { x // x = defArgs (topStmt 1) } := ⟨_, rfl⟩
noncomputable def sc21 : { x // x = defScope (topStmt 1) } := ⟨_, rfl⟩
theorem fa21 {P : Params} {h : Heap} (K : KIn P h) : ∃ pm, At h 21 (dFun (fnX "cmp_to_key" "cmp_to_key" ag21.1 bd21.1 sc21.1 [] .none .none .none pm none (.ref 20) .none)) :=
  ⟨_, fn_at (pm := (oFun (some (zo21 P))).pyModule) (K 21 _ rfl (by decide)) (by kernel_rfl)⟩
theorem ca21 {P : Params} {h : Heap} (K : KIn P h) : h.CodeRec (.ref 20) "cmp_to_key" := code_at (K 20 _ rfl (by decide)) rfl (by kernel_rfl)
noncomputable def bd30 : { x // x = bodyOf 3 } := ⟨_, rfl⟩
noncomputable def ag30 : { x // x = defArgs (topStmt 3) } := ⟨_, rfl⟩
noncomputable def sc30 : { x // x = defScope (topStmt 3) } := ⟨_, rfl⟩
theorem fa30 {P : Params} {h : Heap} (K : KIn P h) : ∃ pm, At h 30 (dFun (fnX "reduce" "reduce" ag30.1 bd30.1 sc30.1 [] (.ref 23) .none .none pm none (.ref 29) .none)) :=
  ⟨_, fn_at (pm := (oFun (some (zo30 P))).pyModule) (K 30 _ rfl (by decide)) (by kernel_rfl)⟩
theorem ca30 {P : Params} {h : Heap} (K : KIn P h) : h.CodeRec (.ref 29) "reduce" := code_at (K 29 _ rfl (by decide)) rfl (by kernel_rfl)
noncomputable def bd37 : { x // x = bodyOf 5 } := ⟨_, rfl⟩
noncomputable def ag37 : { x // x = defArgs (topStmt 5) } := ⟨_, rfl⟩
noncomputable def sc37 : { x // x = defScope (topStmt 5) } := ⟨_, rfl⟩
theorem fa37 {P : Params} {h : Heap} (K : KIn P h) : ∃ pm, At h 37 (dFun (fnX "search_reverse" "search_reverse" ag37.1 bd37.1 sc37.1 [] .none .none .none pm none (.ref 36) .none)) :=
  ⟨_, fn_at (pm := (oFun (some (zo37 P))).pyModule) (K 37 _ rfl (by decide)) (by kernel_rfl)⟩
theorem ca37 {P : Params} {h : Heap} (K : KIn P h) : h.CodeRec (.ref 36) "search_reverse" := code_at (K 36 _ rfl (by decide)) rfl (by kernel_rfl)
noncomputable def bd44 : { x // x = bodyOf 7 } := ⟨_, rfl⟩
noncomputable def ag44 : { x // x = defArgs (topStmt 7) } := ⟨_, rfl⟩
noncomputable def sc44 : { x // x = defScope (topStmt 7) } := ⟨_, rfl⟩
theorem fa44 {P : Params} {h : Heap} (K : KIn P h) : ∃ pm, At h 44 (dFun (fnX "_law_hit" "_law_hit" ag44.1 bd44.1 sc44.1 [] .none .none .none pm none (.ref 43) .none)) :=
  ⟨_, fn_at (pm := (oFun (some (zo44 P))).pyModule) (K 44 _ rfl (by decide)) (by kernel_rfl)⟩
theorem ca44 {P : Params} {h : Heap} (K : KIn P h) : h.CodeRec (.ref 43) "_law_hit" := code_at (K 43 _ rfl (by decide)) rfl (by kernel_rfl)
noncomputable def bd51 : { x // x = bodyOf 8 } := ⟨_, rfl⟩
noncomputable def ag51 : { x // x = defArgs (topStmt 8) } := ⟨_, rfl⟩
noncomputable def sc51 : { x // x = defScope (topStmt 8) } := ⟨_, rfl⟩
theorem fa51 {P : Params} {h : Heap} (K : KIn P h) : ∃ pm, At h 51 (dFun (fnX "_law_program" "_law_program" ag51.1 bd51.1 sc51.1 [] .none .none .none pm none (.ref 50) .none)) :=
  ⟨_, fn_at (pm := (oFun (some (zo51 P))).pyModule) (K 51 _ rfl (by decide)) (by kernel_rfl)⟩
theorem ca51 {P : Params} {h : Heap} (K : KIn P h) : h.CodeRec (.ref 50) "_law_program" := code_at (K 50 _ rfl (by decide)) rfl (by kernel_rfl)
noncomputable def bd58 : { x // x = bodyOf 9 } := ⟨_, rfl⟩
noncomputable def ag58 : { x // x = defArgs (topStmt 9) } := ⟨_, rfl⟩
noncomputable def sc58 : { x // x = defScope (topStmt 9) } := ⟨_, rfl⟩
theorem fa58 {P : Params} {h : Heap} (K : KIn P h) : ∃ pm, At h 58 (dFun (fnX "_law_dealt" "_law_dealt" ag58.1 bd58.1 sc58.1 [] .none .none .none pm none (.ref 57) .none)) :=
  ⟨_, fn_at (pm := (oFun (some (zo58 P))).pyModule) (K 58 _ rfl (by decide)) (by kernel_rfl)⟩
theorem ca58 {P : Params} {h : Heap} (K : KIn P h) : h.CodeRec (.ref 57) "_law_dealt" := code_at (K 57 _ rfl (by decide)) rfl (by kernel_rfl)
noncomputable def bd65 : { x // x = bodyOf 10 } := ⟨_, rfl⟩
noncomputable def ag65 : { x // x = defArgs (topStmt 10) } := ⟨_, rfl⟩
noncomputable def sc65 : { x // x = defScope (topStmt 10) } := ⟨_, rfl⟩
theorem fa65 {P : Params} {h : Heap} (K : KIn P h) : ∃ pm, At h 65 (dFun (fnX "_law_later" "_law_later" ag65.1 bd65.1 sc65.1 [] .none .none .none pm none (.ref 64) .none)) :=
  ⟨_, fn_at (pm := (oFun (some (zo65 P))).pyModule) (K 65 _ rfl (by decide)) (by kernel_rfl)⟩
theorem ca65 {P : Params} {h : Heap} (K : KIn P h) : h.CodeRec (.ref 64) "_law_later" := code_at (K 64 _ rfl (by decide)) rfl (by kernel_rfl)
noncomputable def bd72 : { x // x = bodyOf 11 } := ⟨_, rfl⟩
noncomputable def ag72 : { x // x = defArgs (topStmt 11) } := ⟨_, rfl⟩
noncomputable def sc72 : { x // x = defScope (topStmt 11) } := ⟨_, rfl⟩
theorem fa72 {P : Params} {h : Heap} (K : KIn P h) : ∃ pm, At h 72 (dFun (fnX "_law_end" "_law_end" ag72.1 bd72.1 sc72.1 [] .none .none .none pm none (.ref 71) .none)) :=
  ⟨_, fn_at (pm := (oFun (some (zo72 P))).pyModule) (K 72 _ rfl (by decide)) (by kernel_rfl)⟩
theorem ca72 {P : Params} {h : Heap} (K : KIn P h) : h.CodeRec (.ref 71) "_law_end" := code_at (K 71 _ rfl (by decide)) rfl (by kernel_rfl)
noncomputable def bd79 : { x // x = bodyOf 12 } := ⟨_, rfl⟩
noncomputable def ag79 : { x // x = defArgs (topStmt 12) } := ⟨_, rfl⟩
noncomputable def sc79 : { x // x = defScope (topStmt 12) } := ⟨_, rfl⟩
theorem fa79 {P : Params} {h : Heap} (K : KIn P h) : ∃ pm, At h 79 (dFun (fnX "_law_step" "_law_step" ag79.1 bd79.1 sc79.1 [] .none .none .none pm none (.ref 78) .none)) :=
  ⟨_, fn_at (pm := (oFun (some (zo79 P))).pyModule) (K 79 _ rfl (by decide)) (by kernel_rfl)⟩
theorem ca79 {P : Params} {h : Heap} (K : KIn P h) : h.CodeRec (.ref 78) "_law_step" := code_at (K 78 _ rfl (by decide)) rfl (by kernel_rfl)
noncomputable def bd86 : { x // x = bodyOf 13 } := ⟨_, rfl⟩
noncomputable def ag86 : { x // x = defArgs (topStmt 13) } := ⟨_, rfl⟩
noncomputable def sc86 : { x // x = defScope (topStmt 13) } := ⟨_, rfl⟩
theorem fa86 {P : Params} {h : Heap} (K : KIn P h) : ∃ pm, At h 86 (dFun (fnX "_law_fits" "_law_fits" ag86.1 bd86.1 sc86.1 [] .none .none .none pm none (.ref 85) .none)) :=
  ⟨_, fn_at (pm := (oFun (some (zo86 P))).pyModule) (K 86 _ rfl (by decide)) (by kernel_rfl)⟩
theorem ca86 {P : Params} {h : Heap} (K : KIn P h) : h.CodeRec (.ref 85) "_law_fits" := code_at (K 85 _ rfl (by decide)) rfl (by kernel_rfl)
noncomputable def bd91 : { x // x = bodyOf 14 } := ⟨_, rfl⟩
noncomputable def ag91 : { x // x = defArgs (topStmt 14) } := ⟨_, rfl⟩
noncomputable def sc91 : { x // x = defScope (topStmt 14) } := ⟨_, rfl⟩
theorem fa91 {P : Params} {h : Heap} (K : KIn P h) : ∃ pm, At h 91 (dFun (fnX "_law_greatest" "_law_greatest" ag91.1 bd91.1 sc91.1 [] .none .none .none pm none (.ref 90) .none)) :=
  ⟨_, fn_at (pm := (oFun (some (zo91 P))).pyModule) (K 91 _ rfl (by decide)) (by kernel_rfl)⟩
theorem ca91 {P : Params} {h : Heap} (K : KIn P h) : h.CodeRec (.ref 90) "_law_greatest" := code_at (K 90 _ rfl (by decide)) rfl (by kernel_rfl)
noncomputable def bd98 : { x // x = bodyOf 15 } := ⟨_, rfl⟩
noncomputable def ag98 : { x // x = defArgs (topStmt 15) } := ⟨_, rfl⟩
noncomputable def sc98 : { x // x = defScope (topStmt 15) } := ⟨_, rfl⟩
theorem fa98 {P : Params} {h : Heap} (K : KIn P h) : ∃ pm, At h 98 (dFun (fnX "law" "law" ag98.1 bd98.1 sc98.1 [] .none .none .none pm none (.ref 97) .none)) :=
  ⟨_, fn_at (pm := (oFun (some (zo98 P))).pyModule) (K 98 _ rfl (by decide)) (by kernel_rfl)⟩
theorem ca98 {P : Params} {h : Heap} (K : KIn P h) : h.CodeRec (.ref 97) "law" := code_at (K 97 _ rfl (by decide)) rfl (by kernel_rfl)

def IsWork (h : Heap) (v : Value) (b o c : Int) : Prop := ∃ a t1 t2 t3, v = .ref a ∧ a ∉ Tb ∧ At h a (dTup [.int b t1, .int o t2, .int c t3])
def IsW (h : Heap) (v : Value) (k : Int × Int × Int) : Prop := IsWork h v k.1 k.2.1 k.2.2
theorem IsWork.ext {h h' : Heap} {v : Value} {b o c : Int} (x : IsWork h v b o c) (k : Ext h h') : IsWork h' v b o c := let ⟨a, t1, t2, t3, e, q, r⟩ := x; ⟨a, t1, t2, t3, e, q, r.ext k q⟩
theorem later {w : World} {A : Around} {h : Heap} {v₁ v₂ : Value} {b₁ o₁ c₁ b₂ o₂ c₂ : Int} {n u : Nat} (a : AOk A n u) (hn : Nat.blt n recursionLimit = true) (K : KIn w.params h) (T : Tabs h) (W₁ : IsWork h v₁ b₁ o₁ c₁) (W₂ : IsWork h v₂ b₂ o₂ c₂) :
    Does w A (call (.ref 65) [v₁, v₂] []) h fun r new _ => new = [] ∧ ∃ t, r = .int (o₁ - o₂) t := by
  intro Q E g d t os q
  obtain ⟨pm, hf⟩ := fa65 K
  obtain ⟨a₁, t11, t12, t13, rfl, n₁, D₁⟩ := W₁
  obtain ⟨a₂, t21, t22, t23, rfl, n₂, D₂⟩ := W₂
  refine enter a hn hf K T (ca65 K) (binds := [("one", .ref a₁), ("two", .ref a₂)]) (l := [("two", .ref a₂), ("one", .ref a₁)]) (BindsTo.of_eq rfl) fun L h₁ t₁ A' E' a' S => ?_
  refine wpAny_execs_cons ?_
  repeat' wtm_at "mine w1"
  exact back (new := []) S q ⟨rfl, _, rfl⟩
def fits (b₁ o₁ b₂ o₂ : Int) : Bool := !(!(decide (b₁ < b₂) && decide (o₁ ≤ b₂)) && !(decide (b₂ < b₁) && decide (o₂ ≤ b₁)))
theorem s_fits {w : World} {A : Around} {h : Heap} {la : Addr} {v₂ : Value} {xs : List Value} {b₂ o₂ c₂ : Int} {n u : Nat} (ks : List (Int × Int × Int)) (a : AOk A n u) (hn : Nat.blt n recursionLimit = true) (K : KIn w.params h) (T : Tabs h)
    (hl : At h la (dList xs)) (hT : la ∉ Tb) (hx : Are (IsW h) xs ks) (W₂ : IsWork h v₂ b₂ o₂ c₂) :
    Does w A (call (.ref 86) [.ref la, v₂] []) h fun r new _ => new = [] ∧ r = .bool (ks.all fun k => fits k.1 k.2.1 b₂ o₂) := by
  intro Q E g d t os q
  obtain ⟨pm, hf⟩ := fa86 K
  obtain ⟨a₂, t21, t22, t23, rfl, n₂, D₂⟩ := W₂
  refine enter a hn hf K T (ca86 K) (binds := [("kept", .ref la), ("work", .ref a₂)]) (l := [("work", .ref a₂), ("kept", .ref la)]) (BindsTo.of_eq rfl) fun L h₁ t₁ A' E' a' S => ?_
  refine wpAny_execs_cons ?_
  refine for_list (fun i B' l' rest' => lk l' "work" = some (.ref a₂) ∧ rest' = [] ∧ ∀ k ∈ ks.take i, fits k.1 k.2.1 b₂ o₂ = true) a' S hl hT ⟨rfl, rfl, by simp⟩ (fun Q' q' => by wtm_at "mine w_name"; exact q') ?_ ?_
  · rintro i v B' l' rest' it h' t' E'' Post hv ⟨j1, rfl, j3⟩ X S pn _ pr
    obtain ⟨k, hk, W₁⟩ := hx.get hv
    obtain ⟨a₁, t11, t12, t13, rfl, n₁, D₁⟩ := W₁.ext X
    have D₂' := D₂.ext X n₂
    refine wpAny_execs_cons ?_
    repeat' wtm_at "mine w1"
    all_goals first
      | (refine pr _ _ ?_; refine backB (new := []) X S q ⟨rfl, congrArg Value.bool ?_⟩; symm; rw [List.all_eq_false]; exact ⟨k, List.mem_of_getElem? hk, by simp [fits, *]⟩)
      | (refine pn _ _ _ B' _ [] (.inl rfl) (ExtT.refl _ _) S ⟨by wtm_at "mine w_lk", rfl, fun k' hk' => ?_⟩
         rw [List.take_add_one, hk] at hk'
         rcases List.mem_append.mp hk' with hk' | hk'
         · exact j3 k' hk'
         · simp at hk'; subst hk'; simp [fits, *])
  · rintro B' l' rest' h' t' ⟨j1, rfl, j3⟩ X S
    repeat' wtm_at "mine w1"
    refine backB (new := []) X S q ⟨rfl, congrArg Value.bool ?_⟩
    symm
    rw [List.all_eq_true]
    rw [hx.length, List.take_length] at j3
    exact j3

theorem St.keys_code {w : World} {B h : Heap} {own : Led} {c : Addr} {q : Str} (S : St w B h own) (r : h.CodeRec (.ref c) q) : c ∉ own.map (·.1) := fun hm => by
  obtain ⟨p, hp, rfl⟩ := List.mem_map.mp hm
  obtain ⟨⟨o, e, hd⟩, _, _, nc⟩ := S.nw p hp
  obtain ⟨c', o', vs, t, e1, e2, e3, e4⟩ := r
  cases e1
  rw [e] at e2; cases e2
  exact nc _ _ _ _ hd e3 e4
theorem St.learn {w : World} {B h : Heap} {own : Led} {c : Addr} {q : Str} (S : St w B h own) (r : h.CodeRec (.ref c) q) (hc : c ∉ Tb) : ∃ B', Ext B B' ∧ B'.CodeRec (.ref c) q ∧ St w B' h own := by
  obtain ⟨B', h1, _, h3, h4⟩ := St.freeze (new := []) S
  have hk := S.keys_code r
  obtain ⟨c', o', vs, t, e1, e2, e3, e4⟩ := r
  cases e1
  exact ⟨B', h1, ⟨c, o', vs, t, rfl, h4 _ _ e2 hk hc, e3, e4⟩, h3⟩
theorem St.grow {w : World} {B h h' : Heap} {own : Led} {P : Addr} {sp : Spec} {ps : Array Value} {pos : Pos} {qual : Str} {c : Addr} (S : St w B h own) (hTS : (P, sp) ∈ TS) (e : h.get? P = some (tabObj ps)) (x : Heap.ExtBut P h h')
    (e' : h'.get? P = some (tabObj (ps ++ #[rawInt pos.line, rawInt pos.col, .ref c]))) (hc : c ∉ Tb) (hr : h'.CodeRec (.ref c) qual) (hu : (sp.all fun e => !(e.1.1 == pos.line && e.1.2 == pos.col) || e.2 == qual) = true) : St w B h' own := by
  have hP : P ∈ Tb := ts_tb _ hTS
  have X : Ext h h' := fun b o e q => x b o (fun z => q (z ▸ hP)) e
  have ut : ∀ e₁ ∈ TS, ∀ e₂ ∈ TS, e₁.1 = e₂.1 → e₁ = e₂ := by decide
  refine ⟨S.keep.trans X, fun p hp => ⟨(S.nw p hp).1.ext X (S.nw p hp).2.2.1, (S.nw p hp).2⟩, S.nd, fun s hs => ?_, S.kin⟩
  by_cases hsP : s.1 = P
  · have := ut s hs _ hTS hsP
    subst this
    exact (S.tb _ hs).grow e X e' hc hr hu
  · exact (S.tb s hs).stays X fun o ho => x _ _ hsP ho
theorem blt_at {P : Params} {h : Heap} (K : KIn P h) {Pl : Addr} (hn : Pl ≠ 4) : h.BuiltinsAt (gl P) Pl := by
  obtain ⟨o, e, h1, h2, h3⟩ := blt K
  exact ⟨4, o, rfl, by decide, by decide, hn.symm, e, h1, h2, h3⟩
noncomputable abbrev pmOf (w : World) : Value := (gl w.params "__name__").getD .none
section
variable {w : World} {A : Around} {E : Value → Shared → Prop} {B h : Heap} {g : Array GenState} {d : Drawn} {t : Nat} {os : OsState} {own : Led} {Q : Value → Shared → Prop}
variable {cn : Str} {cs : Scope} {L f c P : Addr} {cl clos : List (Str × Addr)} {sp : Spec} {name qual : Str} {params : Arguments} {body : List Stmt} {be : Expr} {scope : Scope} {pos : Pos} {fl : Nat}
theorem r_def (S : St w B h own) (hTS : (P, sp) ∈ TS) (C : CodeHd h c P) (hcl : closureFor scope (envX cn cs L f (.ref c) cl) = pure clos) (hsp : sp.contains ((pos.line, pos.col), qual) = true)
    (hu : (sp.all fun e => !(e.1.1 == pos.line && e.1.2 == pos.col) || e.2 == qual) = true) (hP : P ≠ 4 ∧ mainGlobals ≠ P)
    (q : ∀ fa c' ctv doc B' h' t', Ext B B' → c' ∉ Tb → B'.CodeRec (.ref c') qual → St w B' h' ((fa, dObj (fnMade name qual params body scope clos doc (pmOf w) c' ctv)) :: own) → Q (.ref fa) ⟨h', g, d, t', os⟩) :
    wpM w A (makeFunction name qual params (.stmts body) scope (envX cn cs L f (.ref c) cl) [] [] [] pos fl) Q E ⟨h, g, d, t, os⟩ := by
  obtain ⟨ps, e, ht, _⟩ := id (S.tb _ hTS)
  cases hf : codeAmong pos ps.toList with
  | none =>
    refine makeFunction_K hcl rfl (gl_ns S.kinh) rfl C e ht hf hP.2 (blt_at S.kinh hP.1) fun c' ctv doc h' tk hx hge hlt hrec htb => ?_
    have hc : c' ∉ Tb := fun hm => tb_lt (P := w.params) S.tb _ hm (Heap.get?_none_of_le hge)
    have S1 := S.grow hTS e hx htb hc hrec hu
    obtain ⟨B', X, r, S2⟩ := S1.learn hrec hc
    exact q _ c' ctv doc B' _ tk X hc r (S2.alloc (dd := dObj _) rfl nc_fun rfl)
  | some cv =>
    obtain ⟨c', rfl, hc, hrec⟩ := tabHit (S.tb _ hTS) e hsp hf
    refine makeFunction_hit hcl rfl (gl_ns S.kinh) rfl C e ht hf (blt_at S.kinh hP.1) fun ctv doc h' tk hk _ => ?_
    have S1 : St w B h' own := ⟨S.keep.trans (ExtT.all hk), fun p hp => ⟨(S.nw p hp).1.keeps hk, (S.nw p hp).2⟩, S.nd, tabs_keeps S.tb hk, S.kin⟩
    obtain ⟨B', X, r, S2⟩ := S1.learn (hrec.keeps hk) hc
    exact q _ c' ctv doc B' _ tk X hc r (S2.alloc (dd := dObj _) rfl nc_fun rfl)
theorem r_lam (S : St w B h own) (hTS : (P, sp) ∈ TS) (C : CodeHd h c P) (hcl : closureFor scope (envX cn cs L f (.ref c) cl) = pure clos) (hsp : sp.contains ((pos.line, pos.col), qual) = true)
    (hu : (sp.all fun e => !(e.1.1 == pos.line && e.1.2 == pos.col) || e.2 == qual) = true) (hP : P ≠ 4 ∧ mainGlobals ≠ P)
    (q : ∀ fa c' ctv B' h' t', Ext B B' → c' ∉ Tb → B'.CodeRec (.ref c') qual → St w B' h' ((fa, dObj (kla_obj name qual params be scope clos (pmOf w) c' ctv)) :: own) → Q (.ref fa) ⟨h', g, d, t', os⟩) :
    wpM w A (makeFunction name qual params (.expr be) scope (envX cn cs L f (.ref c) cl) [] [] [] pos fl) Q E ⟨h, g, d, t, os⟩ := by
  obtain ⟨ps, e, ht, _⟩ := id (S.tb _ hTS)
  cases hf : codeAmong pos ps.toList with
  | none =>
    refine kla_makeFunction hcl rfl (gl_ns S.kinh) rfl C e ht hf hP.2 (blt_at S.kinh hP.1) fun c' ctv h' tk hx hge hlt hrec htb => ?_
    have hc : c' ∉ Tb := fun hm => tb_lt (P := w.params) S.tb _ hm (Heap.get?_none_of_le hge)
    have S1 := S.grow hTS e hx htb hc hrec hu
    obtain ⟨B', X, r, S2⟩ := S1.learn hrec hc
    exact q _ c' ctv B' _ tk X hc r (S2.alloc (dd := dObj _) rfl nc_fun rfl)
  | some cv =>
    obtain ⟨c', rfl, hc, hrec⟩ := tabHit (S.tb _ hTS) e hsp hf
    refine kla_makeFunctionHit hcl rfl (gl_ns S.kinh) rfl C e ht hf (blt_at S.kinh hP.1) fun ctv h' tk hk _ => ?_
    have S1 : St w B h' own := ⟨S.keep.trans (ExtT.all hk), fun p hp => ⟨(S.nw p hp).1.keeps hk, (S.nw p hp).2⟩, S.nd, tabs_keeps S.tb hk, S.kin⟩
    obtain ⟨B', X, r, S2⟩ := S1.learn (hrec.keeps hk) hc
    exact q _ c' ctv B' _ tk X hc r (S2.alloc (dd := dObj _) rfl nc_fun rfl)
end
theorem cd43 {P : Params} {h : Heap} (K : KIn P h) : CodeHd h 43 39 := ⟨_, _, _, _, _, _, _, _, _, K 43 _ rfl (by decide), by kernel_rfl, rfl, by kernel_rfl, by kernel_rfl, rfl, rfl, rfl, rfl, by decide⟩
theorem cd50 {P : Params} {h : Heap} (K : KIn P h) : CodeHd h 50 46 := ⟨_, _, _, _, _, _, _, _, _, K 50 _ rfl (by decide), by kernel_rfl, rfl, by kernel_rfl, by kernel_rfl, rfl, rfl, rfl, rfl, by decide⟩
theorem cd78 {P : Params} {h : Heap} (K : KIn P h) : CodeHd h 78 74 := ⟨_, _, _, _, _, _, _, _, _, K 78 _ rfl (by decide), by kernel_rfl, rfl, by kernel_rfl, by kernel_rfl, rfl, rfl, rfl, rfl, by decide⟩

section
open Builtin Builtin.ObjectAttr
theorem slot_fset : Slot "function" "__setattr__" "object.__setattr__" :=
  .of (owner := "object") (n := "__setattr__") (by rw [typeLookup_type, builtinLookup_eq_fast]; kernel_rfl) (by decide +kernel) (by decide +kernel) (by decide +kernel)
    (by first | exact .inl (by decide +kernel) | exact .inr (by decide +kernel)) (by rw [isSubtype_type]; kernel_rfl)
theorem slot_fget : Slot "function" "__getattribute__" "object.__getattribute__" :=
  .of (owner := "object") (n := "__getattribute__") (by rw [typeLookup_type, builtinLookup_eq_fast]; kernel_rfl) (by decide +kernel) (by decide +kernel) (by decide +kernel)
    (by first | exact .inl (by decide +kernel) | exact .inr (by decide +kernel)) (by rw [isSubtype_type]; kernel_rfl)
theorem entry_oset : entryFor table "object.__setattr__" = some Builtin.«object.__setattr__» := entryFor_of_tree (by kernel_rfl)
theorem entry_oget : entryFor table "object.__getattribute__" = some Builtin.«object.__getattribute__» := entryFor_of_tree (by kernel_rfl)
theorem args_oset (a b c : Value) : argsOk "object.__setattr__" ⟨[a, b, c], []⟩ := by unfold argsOk; kernel_rfl
theorem args_oget (a b : Value) : argsOk "object.__getattribute__" ⟨[a, b], []⟩ := by unfold argsOk; kernel_rfl
/-- a dict of texts whose size is known -/
def dNz (k : Nat) (m : Str → Option Value) (o : Obj) : Prop := o.cls = .type "dict" ∧ ∃ es ep, o.data = .dict es ep ∧ StrKeys es ∧ (∀ n, nsFind es n = m n) ∧ es.size ≤ k
theorem nc_nz {k m} : NoCode (dNz k m) := fun o vs q t h e => by obtain ⟨_, es, ep, h, _⟩ := h; rw [h] at e; cases e
theorem At.nz {h : Heap} {a : Addr} {k : Nat} {m : Str → Option Value} (x : At h a (dNz k m)) : h.Ns a m := let ⟨o, e, _, es, ep, h1, h2, h3, _⟩ := x; ⟨o, es, ep, e, h1, h2, h3⟩
section
variable {w : World} {A : Around} {E : Value → Shared → Prop} {B h : Heap} {g : Array GenState} {d : Drawn} {t : Nat} {os : OsState} {own own' : Led} {fa dx : Addr} {fd : FuncData} {name : Str} {v : Value} {l : List (Str × Value)} {n : Nat}
theorem nsSet_z {k : Nat} {m : Str → Option Value} {Q : Unit → Shared → Prop} (D : At h dx (dNz k m)) (q : ∀ h', At h' dx (dNz (k + 1) (fun y => if y = name then some v else m y)) → Heap.SameBut dx h h' → Q () ⟨h', g, d, t + 1, os⟩) :
    wpM w A (nsSet dx name v) Q E ⟨h, g, d, t, os⟩ := by
  obtain ⟨o, ho, hc, es, ep, hd, hk, hm, hz⟩ := D
  unfold nsSet
  refine wpAny_bind (wpAny_bind (wpAny_askSetting (wpAny_pure (wpAny_bind (wpAny_mkText (wpAny_bind (wpAny_loadPart ho ?_)))))))
  have hany : es.any (·.refKey) = false := by
    rw [Array.any_eq_false']; intro e he; obtain ⟨n, t, h⟩ := hk e he; simp [DictEntry.refKey, h]
  rw [hd]
  dsimp only
  rw [aRefKeyMayBeTheName_eq, aRefKeyMayBeTheNameByArray, hany, Bool.and_false]
  refine wpAny_updatePart ho ?_
  refine q _ ?_ (Heap.SameBut.update ..)
  obtain ⟨c, dd, dt, sl⟩ := o
  subst hd
  cases hi : es.findIdx? (·.key.isStr name) with
  | some i =>
    refine ⟨_, Heap.get?_update_self _ ho (by simp only [Obj.putName_eq, Obj.putNameByArray, hi]; rfl), ?_, ?_⟩
    · simp only [Obj.putName_eq, Obj.putNameByArray, hi]; exact hc
    · refine ⟨_, ep, by simp only [Obj.putName_eq, Obj.putNameByArray, hi]; rfl, hk.modify _ _, fun x => ?_, by rw [Array.size_modify]; omega⟩
      show _ = if x = name then some v else m x
      rw [← hm]; exact findBy_modify (fun n v => v.isStr n) Value.isStr_inj es name x v i hi
  | none =>
    refine ⟨_, Heap.get?_update_self _ ho (by simp only [Obj.putName_eq, Obj.putNameByArray, hi]; rfl), ?_, ?_⟩
    · simp only [Obj.putName_eq, Obj.putNameByArray, hi]; exact hc
    · refine ⟨_, ep + 1, by simp only [Obj.putName_eq, Obj.putNameByArray, hi]; rfl, hk.push _ _ _ _, fun x => ?_, by rw [Array.size_push]; omega⟩
      show _ = if x = name then some v else m x
      rw [← hm]
      exact findBy_push (fun n v => v.isStr n) es name x _ _ v (fun y => by
        show (name == y) = decide (y = name)
        by_cases h : y = name
        · subst h; simp
        · have : ¬ name = y := fun e => h e.symm
          simp [h, this]) hi
theorem refuse_fn (s : Shared) (hT : s.TypeIs (.ref fa) "function") {Q : Unit → Shared → Prop} (q : Q () s) : wpM w A (refuseIfOverridden (.ref fa) "__setattr__") Q E s := by
  unfold refuseIfOverridden
  refine wpAny_bind (wpAny_typeOf hT ?_)
  refine wpAny_of_eq (a := ()) ?_ q
  kernel_rfl
theorem store_end {Q : Fin → Shared → Prop} {k : Nat} {m : Str → Option Value} {tk : Tok} (D : At h dx (dNz k m)) (hk : k < 1000) (q : ∀ h', At h' dx (dNz (k + 1) (fun y => if y = name then some v else m y)) → Heap.SameBut dx h h' → Q (.done (.ret .none)) ⟨h', g, d, t + 1, os⟩) :
    wpM w A (storeInDict dx (.str name tk) name v) Q E ⟨h, g, d, t, os⟩ := by
  unfold storeInDict
  refine wpAny_bind (wpAny_pure (wpAny_bind (nsSet_z D fun h' D' hs => wpAny_bind ?_)))
  obtain ⟨o, ho, hc, es, ep, hd, _, _, hz⟩ := id D'
  refine wpAny_lookBehind ho (by rw [hd]; exact pastItsLine_dict (by rw [sizeLine_eq]; omega)) ?_
  exact wpAny_pure (q h' D' hs)
theorem set_head {Q : Unit → Shared → Prop} {o : Obj} (ho : h.get? fa = some o) (hc : o.cls = .type "function") (hn : typeLookup (.type "function") name = pure none)
    (q : wpM w A.in1 (ownDictForStores (.ref fa)) (fun r s' => wpM w A.in1 (match r with | some dx => storeInDict dx (.str name t) name v | none => noDictFor (.ref fa) (.type "function") name false) (fun fin s'' => ∃ v, fin = .done (.ret v) ∧ Q () s'') E s') E ⟨h, g, d, t + 1, os⟩) :
    wpM w A (setAttr (.ref fa) name v) Q E ⟨h, g, d, t, os⟩ := by
  have hT : (⟨h, g, d, t, os⟩ : Shared).TypeIs (.ref fa) "function" := ⟨_, ho, hc⟩
  have hT1 : (⟨h, g, d, t + 1, os⟩ : Shared).TypeIs (.ref fa) "function" := ⟨_, ho, hc⟩
  unfold setAttr
  refine wpAny_bind (wpAny_mkText (wpAny_bind (wpAny_callSpecial?_slot hT1 slot_fset (wpAny_call_entry slot_fset hT1 entry_oset ?_ (args_oset _ _ _)))))
  show wpAny _ _ (Builtin.«object.__setattr__» ⟨[.ref fa, .str name t, v], []⟩) _ _ _
  rw [osa_eq]
  refine wpAny_bind (refuse_fn _ hT1 (wpAny_bind (wpAny_typeOf hT1 ?_)))
  rw [hn]
  refine wpAny_bind (wpAny_pure (wpAny_bind (wpAny_pure (wpAny_bind ?_))))
  refine wpAny_pure (wpAny_bind (wpAny_mono q (fun r s' z => wpAny_mono z (fun fin s'' z' => ?_) fun _ _ e => e) fun _ _ e => e))
  obtain ⟨v', e, z'⟩ := z'
  exact ⟨v', e, wpAny_pure z'⟩
/-- f.name = v on a function, whose dict (if it has one) is in the ledger -/
theorem set_fn0 {Q : Unit → Shared → Prop} {own' : Addr → Led} (S : St w B h own) (u : ∀ dx, LUp fa (dObj { cls := .type "function", data := .func fd }) (dObj { cls := .type "function", dict := some dx, data := .func fd }) own (own' dx))
    (q : ∀ dx h' t', St w B h' ((dx, dNz 1 (lk [(name, v)])) :: own' dx) → Q () ⟨h', g, d, t', os⟩) (hn : typeLookup (.type "function") name = pure none) : wpM w A (setAttr (.ref fa) name v) Q E ⟨h, g, d, t, os⟩ := by
  obtain ⟨o, ho, rfl⟩ := (S.nw _ (u 0).mem).1
  refine set_head ho rfl hn ?_
  show wpAny _ _ (instanceDict fa true) _ _ _
  unfold instanceDict
  refine wpAny_bind (wpAny_loadPart ho ?_)
  dsimp only
  rw [if_neg (by decide +kernel)]
  refine wpAny_bind (wpAny_alloc ?_)
  have S1 := S.alloc (dd := dNz 0 (lk [])) (o := { cls := .type "dict", data := .dict #[] }) ⟨rfl, #[], 0, rfl, fun _ he => by simp at he, fun _ => rfl, Nat.le_refl _⟩ nc_nz rfl
  have ho1 := (S1.nw _ (.tail _ (u 0).mem)).1
  obtain ⟨o1, e1, rfl⟩ := ho1
  refine wpAny_bind (wpAny_update e1 ?_)
  have S2 := S1.upd (.tail (u h.objs.size)) nc_fun (Heap.SameBut.update ..) (h' := (h.push { cls := .type "dict", data := .dict #[] }).update fa fun o => { o with dict := some h.objs.size }) ⟨_, Heap.get?_update_self _ e1 rfl, rfl⟩
  refine wpAny_of_eq (a := some h.objs.size) (by kernel_rfl) ?_
  refine store_end (S2.mem .head) (by decide) fun h' D' hs => ⟨_, rfl, q _ h' _ (S2.upd .head nc_nz hs ?_)⟩
  have : lk [(name, v)] = fun y => if y = name then some v else lk [] y := by rw [← lk_setL]; rfl
  rw [this]; exact D'
theorem set_fn1 {Q : Unit → Shared → Prop} {k : Nat} (S : St w B h own) (ho : At h fa (dObj { cls := .type "function", dict := some dx, data := .func fd })) (u : LUp dx (dNz k (lk l)) (dNz (k + 1) (lk (setL name v l))) own own') (hk : k < 1000)
    (q : ∀ h' t', St w B h' own' → Q () ⟨h', g, d, t', os⟩) (hn : typeLookup (.type "function") name = pure none) : wpM w A (setAttr (.ref fa) name v) Q E ⟨h, g, d, t, os⟩ := by
  obtain ⟨o, ho, rfl⟩ := ho
  refine set_head ho rfl hn ?_
  show wpAny _ _ (instanceDict fa true) _ _ _
  unfold instanceDict
  refine wpAny_bind (wpAny_loadPart ho ?_)
  dsimp only
  refine wpAny_pure ?_
  refine store_end (S.nw _ u.mem).1 hk fun h' D' hs => ⟨_, rfl, q h' _ (S.upd u nc_nz hs ?_)⟩
  rw [lk_setL]; exact D'
/-- f.name of a function that has it in its dict -/
theorem get_fn {Q : Value → Shared → Prop} {k : Nat} {ex : Bool} {m : Str → Option Value} (ho : At h fa (dObj { cls := .type "function", dict := some dx, data := .func fd })) (D : At h dx (dNz k m)) (hv : m name = some v) (hh : handedOut v = pure v) (hn : typeLookup (.type "function") name = pure none)
    (q : Q v ⟨h, g, d, t + 1, os⟩) : wpM w A (getAttr (.ref fa) name ex) Q E ⟨h, g, d, t, os⟩ := by
  obtain ⟨o, ho, rfl⟩ := ho
  have hT : (⟨h, g, d, t + 1, os⟩ : Shared).TypeIs (.ref fa) "function" := ⟨_, ho, rfl⟩
  unfold getAttr getAttrBy
  refine wpAny_bind (wpAny_mkText (wpAny_holding (wpAny_bind (wpAny_typeOf hT ?_))))
  rw [slot_fget.lookup]
  refine wpAny_bind (wpAny_pure ?_)
  show wpAny _ _ (getAttrByItsOwn (.ref fa) (.str name t) (.type "function") (.builtin "object.__getattribute__") true ex) _ _ _
  unfold getAttrByItsOwn hookBefore callGetattribute boundAndCalled
  refine wpAny_bind (wpAny_pure (wpAny_bind (wpAny_attempt (wpAny_holding ?_))))
  rw [show (ex && onTheHeap (Value.builtin "object.__getattribute__")) = false from Bool.and_false _, if_neg (by decide), slot_fget.bind]
  refine wpAny_bind (wpAny_pure (wpAny_call_entry slot_fget hT entry_oget ?_ (args_oget _ _)))
  show wpAny _ _ (Builtin.«object.__getattribute__» ⟨[.ref fa, .str name t], []⟩) _ _ _
  unfold Builtin.«object.__getattribute__»
  refine wpAny_bind (wpAny_of_eq (a := (Value.ref fa, [Value.str name t])) rfl ?_)
  refine wpAny_bind (wpAny_pure (wpAny_bind (wpAny_typeOf hT (wpAny_bind ?_))))
  unfold find
  rw [hn]
  refine wpAny_bind (wpAny_pure (wpAny_bind (wpAny_pure (wpAny_bind (wpAny_pure ?_)))))
  show wpAny _ _ (ownThenClass (.ref fa) name none none) _ _ _
  unfold ownThenClass inOwnDict ObjectAttr.ownDict
  refine wpAny_bind (wpAny_bind (wpAny_bind (wpAny_loadPart ho ?_)))
  show wpAny _ _ (instanceDict fa false) _ _ _
  unfold instanceDict
  refine wpAny_bind (wpAny_loadPart ho (wpAny_pure ?_))
  show wpAny _ _ (nsGet dx name) _ _ _
  refine wpAny_nsGet D.nz ?_
  rw [hv]
  refine wpAny_bind (wpAny_rule (wpAny_pure (wpAny_pure ⟨v, rfl, ?_⟩)))
  show wpAny _ _ (handedOut v) _ _ _
  rw [hh]
  exact wpAny_pure q
end

end
section
variable {w : World} {A : Around} {E : Value → Shared → Prop} {B h : Heap} {g : Array GenState} {d : Drawn} {t : Nat} {os : OsState} {own own' : Led} {fa dx a : Addr} {fd : FuncData} {name : Str} {v : Value} {l : List (Str × Value)} {n : Nat}
theorem get_method {dd : Option Addr} {Q : Value × List Value → Shared → Prop} {pl : Sem Bool} (ho : At h fa (dObj { cls := .type "function", dict := dd, data := .func fd })) (hn : typeLookup (.type "function") name = pure none)
    (q : wpM w A (getAttr (.ref fa) name) (fun v s' => Q (v, []) s') E ⟨h, g, d, t, os⟩) : wpM w A (getMethod (.ref fa) name pl) Q E ⟨h, g, d, t, os⟩ := by
  obtain ⟨o, ho, rfl⟩ := ho
  have hT : (⟨h, g, d, t, os⟩ : Shared).TypeIs (.ref fa) "function" := ⟨_, ho, rfl⟩
  have hg : typeLookup (.type "function") "__getattr__" = pure none := by rw [typeLookup_type, builtinLookup_eq_fast]; kernel_rfl
  unfold getMethod
  refine wpAny_bind (wpAny_specialOf hT slot_fget.lookup ?_)
  dsimp only
  rw [if_neg (by decide +kernel)]
  refine wpAny_bind (wpAny_specialOf hT hg ?_)
  rw [if_neg (by decide)]
  refine wpAny_bind (wpAny_specialOf hT hn ?_)
  exact wpAny_bind (wpAny_mono q (fun v s' z => wpAny_pure z) fun _ _ e => e)
theorem cw_fun {pos : Pos} {first : List Value} {args : List (Bool × Sem Value)} {Q : Value → Shared → Prop} {s : Shared}
    (q : wpM w A (evalArgs (.ref a) true args []) (fun x s₁ => (∃ fd, At s₁.heap a (dFun fd)) ∧ wpM w A (call (.ref a) (first ++ x.pos) x.kw) Q E s₁) E s) :
    wpM w A (callWith pos (.ref a) first args []) Q E s := by
  unfold callWith
  refine wpAny_bind (wpAny_holding (wpAny_mono q (fun x s₁ h₁ => wpAny_bind (wpAny_standAt ?_)) fun _ _ x => x))
  obtain ⟨⟨fd, o, ho, hd⟩, h₁⟩ := h₁
  have tail : ∀ {t : Sem Value}, wpAny (model Pr w) A t Q E s₁ → wpAny (model Pr w) A (t >>= fun r => holding [r] point >>= fun _ => pure r) Q E s₁ :=
    fun ht => wpAny_bind (wpAny_mono ht (fun r s₂ hr => wpAny_bind (wpAny_holding (wpAny_point (wpAny_pure hr)))) fun _ _ x => x)
  refine wpAny_bind (m := keeperOf (.ref a)) ?_
  unfold keeperOf
  refine wpAny_bind (wpAny_load ho ?_)
  have hd' : o.data = .func fd := hd
  rw [hd']
  refine wpAny_pure ?_
  cases hs : (args.any (·.1) || ([] : List (Option Str × Sem Value)).any (·.1.isNone))
  · dsimp only
    split
    · exact tail h₁
    · exact tail (wpAny_keep h₁)
  · exact tail (wpAny_keep h₁)
theorem r_alloc {o : Obj} {Q : Addr → Shared → Prop} {dd : Obj → Prop} (S : St w B h own) (hd : dd o) (nc : NoCode dd) (hf : o.isFreed = false) (q : ∀ a h', St w B h' ((a, dd) :: own) → Q a ⟨h', g, d, t, os⟩) : wpM w A (alloc o) Q E ⟨h, g, d, t, os⟩ :=
  wpAny_alloc (q _ _ (S.alloc hd nc hf))
theorem r_newList {vs : List Value} {Q : Value → Shared → Prop} (S : St w B h own) (q : ∀ a h', St w B h' ((a, dList vs) :: own) → Q (.ref a) ⟨h', g, d, t, os⟩) (hz : vs.length ≤ sizeLine) : wpM w A (newList vs) Q E ⟨h, g, d, t, os⟩ :=
  wpAny_newObj_type (q _ _ (S.alloc ⟨_, rfl⟩ nc_list rfl)) (by show vs.toArray.size ≤ sizeLine; rw [List.size_toArray]; exact hz)
theorem r_newTuple {vs : List Value} {Q : Value → Shared → Prop} (S : St w B h own) (q : ∀ a h', St w B h' ((a, dTup vs) :: own) → Q (.ref a) ⟨h', g, d, t, os⟩) (hz : vs.length ≤ sizeLine) : wpM w A (newTuple vs) Q E ⟨h, g, d, t, os⟩ :=
  wpAny_newObj_type (q _ _ (S.alloc ⟨_, rfl⟩ nc_tup rfl)) (by show vs.toArray.size ≤ sizeLine; rw [List.size_toArray]; exact hz)
section
variable {cn : Str} {cs : Scope} {L f c P : Addr} {cl clos : List (Str × Addr)} {sp : Spec} {qual : Str} {params : Arguments} {body : List Stmt} {be : Expr} {scope : Scope} {pos : Pos} {fl : Nat}
theorem r_Lambda {Q : Value → Shared → Prop} (S : St w B h own) (C : CodeHd h c P) (hTS : (P, sp) ∈ TS) (hq : (envX cn cs L f (.ref c) cl).qual ++ "<lambda>" = qual) (hcl : closureFor scope (envX cn cs L f (.ref c) cl) = pure clos) (hsp : sp.contains ((pos.line, pos.col), qual) = true)
    (hu : (sp.all fun e => !(e.1.1 == pos.line && e.1.2 == pos.col) || e.2 == qual) = true) (hP : P ≠ 4 ∧ mainGlobals ≠ P) (hdef : defaultsOf params (envX cn cs L f (.ref c) cl) = ([], []))
    (q : ∀ fa c' ctv B' h' t', Ext B B' → c' ∉ Tb → B'.CodeRec (.ref c') qual → St w B' h' ((fa, dObj (kla_obj "<lambda>" qual params be scope clos (pmOf w) c' ctv)) :: own) → Q (.ref fa) ⟨h', g, d, t', os⟩) :
    wpM w A (eval (.Lambda params be scope pos) (envX cn cs L f (.ref c) cl)) Q E ⟨h, g, d, t, os⟩ := by
  subst hq
  exact kla_eval hdef (r_lam S hTS C hcl hsp hu hP q)
theorem r_FunctionDef {Q : Flow → Shared → Prop} (S : St w B h own) (C : CodeHd h c P) (hTS : (P, sp) ∈ TS) (hq : qualnameIn (envX cn cs L f (.ref c) cl) name name = qual) (hcl : closureFor scope (envX cn cs L f (.ref c) cl) = pure clos) (hsp : sp.contains ((pos.line, pos.col), qual) = true)
    (hu : (sp.all fun e => !(e.1.1 == pos.line && e.1.2 == pos.col) || e.2 == qual) = true) (hP : P ≠ 4 ∧ mainGlobals ≠ P) (hd0 : params.defaults = []) (hk0 : params.kw_defaults = []) (ha : annTrees params none (envX cn cs L f (.ref c) cl) = [])
    (q : ∀ fa c' ctv doc B' h' t', Ext B B' → c' ∉ Tb → B'.CodeRec (.ref c') qual → St w B' h' ((fa, dObj (fnMade name qual params body scope clos doc (pmOf w) c' ctv)) :: own) →
      wpM w A (storeName (envX cn cs L f (.ref c) cl) name (.ref fa)) (fun _ s'' => Q .next s'') E ⟨h', g, d, t', os⟩) :
    wpM w A (exec (.FunctionDef name params body [] none [] scope none name pos) (envX cn cs L f (.ref c) cl)) Q E ⟨h, g, d, t, os⟩ := by
  subst hq
  exact nestDef_K hd0 hk0 ha (r_def S hTS C hcl hsp hu hP q)
end
end
section
variable {w : World} {A : Around} {E : Value → Shared → Prop} {B h : Heap} {g : Array GenState} {d : Drawn} {t : Nat} {os : OsState} {own own' : Led} {name : Str} {v : Value} {n u : Nat}
variable {cn : Str} {cs : Scope} {L f c P : Addr} {cl clos : List (Str × Addr)} {sp : Spec} {qual : Str} {params : Arguments} {body : FuncBody} {be : Expr} {scope : Scope} {pos : Pos} {fl : Nat} {dV : Value} {Q : Value → Shared → Prop}
theorem r_tail (S : St w B h own) (hTS : (P, sp) ∈ TS) (C : CodeHd h c P) (hcl : closureFor scope (envX cn cs L f (.ref c) cl) = pure clos) (hsp : sp.contains ((pos.line, pos.col), qual) = true)
    (hu : (sp.all fun e => !(e.1.1 == pos.line && e.1.2 == pos.col) || e.2 == qual) = true) (hP : P ≠ 4 ∧ mainGlobals ≠ P)
    (q : ∀ fa c' ctv doc B' h' t', Ext B B' → c' ∉ Tb → B'.CodeRec (.ref c') qual → St w B' h' ((fa, dObj (kdv_obj name qual params body scope clos dV doc (pmOf w) c' ctv)) :: own) → Q (.ref fa) ⟨h', g, d, t', os⟩) :
    wpM w A (makeTail name qual params body scope (envX cn cs L f (.ref c) cl) dV .none none pos fl) Q E ⟨h, g, d, t, os⟩ := by
  obtain ⟨ps, e, ht, _⟩ := id (S.tb _ hTS)
  cases hf : codeAmong pos ps.toList with
  | none =>
    refine kdv_makeTail hcl rfl (gl_ns S.kinh) rfl C e ht hf hP.2 (blt_at S.kinh hP.1) fun c' ctv doc h' tk hx hge hlt hrec htb => ?_
    have hc : c' ∉ Tb := fun hm => tb_lt (P := w.params) S.tb _ hm (Heap.get?_none_of_le hge)
    have S1 := S.grow hTS e hx htb hc hrec hu
    obtain ⟨B', X, r, S2⟩ := S1.learn hrec hc
    exact q _ c' ctv doc B' _ tk X hc r (S2.alloc (dd := dObj _) rfl nc_fun rfl)
  | some cv =>
    obtain ⟨c', rfl, hc, hrec⟩ := tabHit (S.tb _ hTS) e hsp hf
    refine kdv_makeTailHit hcl rfl (gl_ns S.kinh) rfl C e ht hf (blt_at S.kinh hP.1) fun ctv doc h' tk hk _ => ?_
    have S1 : St w B h' own := ⟨S.keep.trans (ExtT.all hk), fun p hp => ⟨(S.nw p hp).1.keeps hk, (S.nw p hp).2⟩, S.nd, tabs_keeps S.tb hk, S.kin⟩
    obtain ⟨B', X, r, S2⟩ := S1.learn (hrec.keeps hk) hc
    exact q _ c' ctv doc B' _ tk X hc r (S2.alloc (dd := dObj _) rfl nc_fun rfl)
/-- a def with defaults, made in a body -/
theorem r_FunctionDefD {body : List Stmt} {Q : Flow → Shared → Prop} (C : ∀ {h}, KIn w.params h → CodeHd h c P) (hTS : (P, sp) ∈ TS) (hq : qualnameIn (envX cn cs L f (.ref c) cl) name name = qual) (hcl : closureFor scope (envX cn cs L f (.ref c) cl) = pure clos) (hsp : sp.contains ((pos.line, pos.col), qual) = true)
    (hu : (sp.all fun e => !(e.1.1 == pos.line && e.1.2 == pos.col) || e.2 == qual) = true) (hP : P ≠ 4 ∧ mainGlobals ≠ P) (hd0 : params.defaults.isEmpty = false) (hk0 : params.kw_defaults = []) (ha : annTrees params none (envX cn cs L f (.ref c) cl) = [])
    (q : wpM w A (evalAll (evalEach params.defaults (envX cn cs L f (.ref c) cl))) (fun dv s₁ => ∃ h₁ t₁ B own, s₁ = ⟨h₁, g, d, t₁, os⟩ ∧ St w B h₁ own ∧ dv.isEmpty = false ∧ dv.length ≤ sizeLine ∧ ∀ fa T c' ctv doc B' h' t', Ext B B' → c' ∉ Tb → B'.CodeRec (.ref c') qual →
      St w B' h' ((fa, dObj (kdv_obj name qual params (.stmts body) scope clos (.ref T) doc (pmOf w) c' ctv)) :: (T, dTup dv) :: own) →
      wpM w A (storeName (envX cn cs L f (.ref c) cl) name (.ref fa)) (fun _ s'' => Q .next s'') E ⟨h', g, d, t', os⟩) E ⟨h, g, d, t, os⟩) :
    wpM w A (exec (.FunctionDef name params body [] none [] scope none name pos) (envX cn cs L f (.ref c) cl)) Q E ⟨h, g, d, t, os⟩ := by
  subst hq
  refine kdv_def hd0 hk0 ha (wpAny_mono q (fun dv s₁ z => ?_) fun _ _ e => e)
  obtain ⟨h₁, t₁, B, own, rfl, S, hne, hz, k⟩ := z
  rw [makeFunction_eq]
  simp only [List.zip_nil_right, List.filterMap_nil, List.isEmpty_nil, if_true, pure_bind, hne, Bool.false_eq_true, if_false]
  refine wpAny_bind (wpAny_newTextTuple ?_)
  have S1 := S.alloc (o := { cls := .type "tuple", data := .seq dv.toArray }) (dd := dTup dv) ⟨_, rfl⟩ nc_tup rfl
  exact r_tail S1 hTS (C S1.kinh) hcl hsp hu hP fun fa c' ctv doc B' h' t' X hc r S => k fa _ c' ctv doc B' h' t' X hc r S
/-- a call of a lambda made in a body -/
theorem enterL {args : List Value} {binds : List (Str × Value)} {l : List (Str × Value)} {pm ctv cdv : Value} {h : Heap} (a : AOk A n u) (hn : Nat.blt n recursionLimit = true) (hf : At h f (dFun (kla_fn name qual params be scope cl pm cdv ctv))) (K : KIn w.params h) (T : Tabs h) (hcd : h.CodeRec cdv qual)
    (hb : BindsTo ⟨h, g, d, t, os⟩ (kla_fn name qual params be scope cl pm cdv ctv) ⟨args, []⟩ binds)
    (k : ∀ L h₁ t₁ A' E', AOk A' (n + 1) (u + 3) → St w h h₁ [(L, dNs (lk l))] → wpM w A' (eval be (envX qual scope L f cdv cl)) Q E' ⟨h₁, g, d, t₁, os⟩)
    (hbl : binds.reverse = l := by rfl) (hl : (binds.all fun x => decide (scope.names.lookup x.1 = some .local)) = true := by rfl) (hc : (scope.names.all fun x => x.2 != .cell) = true := by rfl)
    (hco : scope.isCoroutine = false := by rfl) (hgen : scope.isGenerator = false := by rfl) (hk : scope.kind = .function := by rfl) : wpM w A (call (.ref f) args []) Q E ⟨h, g, d, t, os⟩ := by
  obtain ⟨fo, hfo, hfd⟩ := hf
  subst hbl
  have L0 : h.get? h.objs.size = none := fresh_get
  have LT : h.objs.size ∉ Tb := fun hm => tb_lt (P := w.params) T _ hm fresh_get
  refine wpAny_call (kla_callFunE (fd := kla_fn name qual params be scope cl pm cdv ctv) (body := be) (Nat.lt_of_le_of_lt a.dp (by exact Nat.le_of_ble_eq_true hn)) hfo hfd hco hgen rfl hcd (hb _ _ _ _ ?_))
  refine wpAny_newFunctionEnv (fun x hx => by have := List.all_eq_true.mp hc x hx; simpa using this) (locs hl) (fun h₁ hns hsb => ⟨(nolim K).fresh _ hsb, kla_codeExpr ?_⟩) hk
  have hk₁ : ∀ b o, h.get? b = some o → h₁.get? b = some o := fun b o e => hsb.extBut b o (Nat.ne_of_lt (Heap.lt_size e)) (Heap.get?_push_of_some _ e)
  refine wpAny_mono (k h.objs.size h₁ _ _ _ a.deeper ⟨ExtT.all hk₁, fun p hp => ?_, by simp, tabs_keeps T hk₁, K⟩) (fun fl s' q => q) fun _ _ e => e
  cases hp with
  | head => exact ⟨At.of_ns hns, L0, LT, nc_ns⟩
  | tail _ hp => cases hp
end
set_option hygiene false in
local macro_rules | `(tactic| wtm_at "mine w_new") => `(tactic| first
  | ((with_reducible refine' r_newList S ?_ ?zzz); (case zzz => exact Nat.le_of_ble_eq_true rfl); clear S; intro a h' S)
  | ((with_reducible refine' r_newTuple S ?_ ?zzz); (case zzz => exact Nat.le_of_ble_eq_true rfl); clear S; intro a h' S))
local macro_rules | `(tactic| wtm_at "mine w_tl") => `(tactic| (rw [typeLookup_type, builtinLookup_eq_fast]; kernel_rfl!))
set_option hygiene false in
local macro_rules | `(tactic| wtm_at "mine w_set") => `(tactic| first
  | ((with_reducible refine' set_fn1 S ?zzho ?zzu ?zzhk ?_ ?zzhn); (case zzho => wtm_at "mine kn"); (case zzu => wtm_at "mine m_lu"); (case zzhk => decide); (case zzhn => wtm_at "mine w_tl"); clear S; intro h' t' S)
  | ((with_reducible refine' set_fn0 S ?zzu ?_ ?zzhn); (case zzu => (intro dx; wtm_at "mine m_lu")); (case zzhn => wtm_at "mine w_tl"); clear S; intro dx h' t' S))
set_option hygiene false in
local macro_rules | `(tactic| wtm_at "mine w_get") => `(tactic| ((with_reducible refine' get_fn ?zzho ?D ?zzhv ?zzhh ?zzhn ?_); (case zzho => wtm_at "mine kn"); (case D => wtm_at "mine kn"); (case zzhv => wtm_at "mine w_lk"); (case zzhh => exact rfl); (case zzhn => wtm_at "mine w_tl")))
local macro_rules | `(tactic| wtm_at "mine w2") => `(tactic| first
  | wtm_at "mine w1"
  | wtm_at "mine w_new"
  | wtm_at "mine w_set"
  | wtm_at "mine w_get"
  | with_reducible refine wpAny_items_nil ?_
  | ((with_reducible refine' wpAny_items_cons ?_ ?zzhe); (case zzhe => exact rfl))
  | with_reducible refine Tuple_ ?_
  | with_reducible refine wpAny_Break ?_
  | with_reducible refine List_ ?_
  | ((with_reducible refine' plainObj_wpAny_Assign_Attribute ?_ ?zzhs); (case zzhs => exact rfl))
  | ((with_reducible refine' Attribute_any_ ?_ ?zzhe); (case zzhe => with_unfolding_all rfl)))

theorem St.keeps {w : World} {B h h' : Heap} {own : Led} (S : St w B h own) (hk : ∀ b o, h.get? b = some o → h'.get? b = some o) : St w B h' own :=
  ⟨S.keep.trans (ExtT.all hk), fun p hp => ⟨(S.nw p hp).1.keeps hk, (S.nw p hp).2⟩, S.nd, tabs_keeps S.tb hk, S.kin⟩
theorem St.extNew {w : World} {B h h' : Heap} {own : Led} (S : St w B h own) (x : Heap.ExtBut h.objs.size h h') : St w B h' own :=
  S.keeps fun b o e => x b o (Nat.ne_of_lt (Heap.lt_size e)) e
section
variable {w : World} {A : Around} {E : Value → Shared → Prop} {B h : Heap} {g : Array GenState} {d : Drawn} {t : Nat} {os : OsState} {own own' : Led} {a b : Addr} {v : Value} {n u : Nat} {xs ys : List Value} {Q : Value → Shared → Prop}
theorem o_addL (S : St w B h own) (hl : At h a (dList xs)) (hb : At h b (dList ys)) (q : ∀ c h', St w B h' ((c, dList (xs ++ ys)) :: own) → Q (.ref c) ⟨h', g, d, t, os⟩) (hz : xs.length + ys.length ≤ sizeLine) :
    wpM w A (binaryOp .Add (.ref a) (.ref b)) Q E ⟨h, g, d, t, os⟩ := by
  obtain ⟨o1, ho, n1, rfl⟩ := hl
  obtain ⟨o2, ho2, n2, rfl⟩ := hb
  have e : xs.toArray ++ ys.toArray = (xs ++ ys).toArray := by simp
  refine concat_meets ⟨_, ho, rfl⟩ ⟨_, ho2, rfl⟩ noFill_list_add seq_list_add PySem.F.slot_list_add PySem.F.entry_list_add (PySem.F.args_list_add_2 _ _) (list_addW a b xs.toArray ys.toArray n1 n2 none none #[] #[] (by simpa using hz)) ⟨ho, ho2, ?_⟩
  rw [e]
  exact q _ _ (S.alloc ⟨_, rfl⟩ nc_list rfl)
theorem item_lneg {value slice : Expr} {k : Int} {tk : Tok} {x : Value} (ht : At h a (dList xs)) (hlo : k < 0) (hhi : -(2 ^ 63) ≤ k) (h1 : -(xs.length : Int) ≤ k) (hx : xs[(k + xs.length).toNat]? = some x) (q : Q x ⟨h, g, d, t, os⟩)
    (hs : subscripted slice false (.ref a) (.int k tk) = operate [.ref a, .int k tk] (getItem (.ref a) (.int k tk)) := by with_unfolding_all rfl) :
    wpM w A (subscriptTail value slice (.ref a) (.int k tk)) Q E ⟨h, g, d, t, os⟩ :=
  have hL := ht.list
  tail_any (s := ⟨h, g, d, t, os⟩) hL.typeIs slot_list_getitem.lookup (wpAny_getItem_list_neg hL hlo (by simpa using h1) hhi (by simpa using hx) q) hs
theorem o_len (hl : At h a (dList xs)) (hz : xs.length ≤ sizeLine) (q : ∀ t', Q (.int xs.length t') ⟨h, g, d, t + 1 + 1, os⟩) : wpM w A (call (.builtin "len") [.ref a] []) Q E ⟨h, g, d, t, os⟩ :=
  call_len_list (items := xs.toArray) hl.list (by rw [sizeLine_eq] at hz; rw [List.size_toArray]; omega) (by rw [List.size_toArray]; exact q _)
def dRange (n : Int) (o : Obj) : Prop := ∃ x y z, o = { cls := .type "range", dict := none, data := .fields #[.int 0 x, .int n y, .int 1 z], slots := #[] }
theorem nc_range {n : Int} : NoCode (dRange n) := fun o vs q t h e => by
  obtain ⟨x, y, z, rfl⟩ := h
  cases e
  exact fun z => by cases z
theorem o_range {k : Int} {tk : Tok} (S : St w B h own) (q : ∀ c h' t', St w B h' ((c, dRange k) :: own) → Q (.ref c) ⟨h', g, d, t', os⟩) : wpM w A (call (.type "range") [.int k tk] []) Q E ⟨h, g, d, t, os⟩ :=
  call_range_1 (q _ _ _ (S.alloc ⟨_, _, _, rfl⟩ nc_range rfl))
theorem o_max2 {i j : Int} {x y : Tok} (ha : A.handled = none) (S : St w B h own) (q : ∀ h' t' x', St w B h' own → Q (.int (max i j) x') ⟨h', g, d, t', os⟩) : wpM w A (call (.builtin "max") [.int i x, .int j y] []) Q E ⟨h, g, d, t, os⟩ :=
  max_two_ints ha fun h' tk hk => by
    by_cases c : j > i
    · rw [if_pos c]; have := q h' tk y (S.keeps hk); rwa [show max i j = j by omega] at this
    · rw [if_neg c]; have := q h' tk x (S.keeps hk); rwa [show max i j = i by omega] at this
theorem o_append (S : St w B h own) (u : LUp a (dList xs) (dList (xs ++ [v])) own own') (hz : xs.length ≤ sizeLine) (q : ∀ h', St w B h' own' → Q .none ⟨h', g, d, t, os⟩) :
    wpM w A (call (.builtin "list.append") [.ref a, v] []) Q E ⟨h, g, d, t, os⟩ := by
  obtain ⟨o, ho, n, rfl⟩ := (S.nw _ u.mem).1
  refine wpAny_call_entry slot_list_append ⟨_, ho, rfl⟩ entry_list_append ?_ (args_list_append _ _)
  show wpAny _ _ (updateSeq a (·.push v) >>= fun _ => ret .none) _ _ _
  refine wpAny_bind (wpAny_updateSeq ho rfl (wpAny_pure ⟨.none, rfl, q _ (S.upd u nc_list (Heap.SameBut.update ..) ?_)⟩) (by rw [List.size_toArray]; exact hz))
  refine ⟨_, Heap.get?_update_self _ ho rfl, n + 1, ?_⟩
  simp [Obj.mapSeq]
theorem intItems_of : ∀ {xs : List Value} {ns : List Int}, IntsAre xs ns → ∃ ps : Array (Int × Tok), xs.toArray = intItems ps ∧ ns = ps.toList.map (·.1)
  | _, _, .nil => ⟨#[], by simp [intItems], by simp⟩
  | _, _, .cons (vs := vs) i tk r => by
    obtain ⟨ps, e1, e2⟩ := intItems_of r
    refine ⟨#[(i, tk)] ++ ps, ?_, by simp [e2]⟩
    rw [show (Value.int i tk :: vs).toArray = #[Value.int i tk] ++ vs.toArray from by simp, e1]
    simp [intItems]
theorem o_sum {ns : List Int} (ha : A.handled = none) (S : St w B h own) (hl : h.IsList a xs.toArray) (hi : IntsAre xs ns) (q : ∀ h' t' x', St w B h' own → Q (.int ns.sum x') ⟨h', g, d, t', os⟩) : wpM w A (call (.builtin "sum") [.ref a] []) Q E ⟨h, g, d, t, os⟩ := by
  obtain ⟨ps, e1, e2⟩ := intItems_of hi
  refine sum_intListG (xs := ps) ha (by rw [← e1]; exact hl) fun h' tk t' hk => ?_
  have := q h' tk t' (S.keeps hk)
  rw [preSum_eq, List.take_of_length_le (by simp)]
  rw [e2] at this
  exact this
def dSlice (x y z : Value) (o : Obj) : Prop := o = { cls := .type "slice", dict := none, data := .fields #[x, y, z], slots := #[] }
theorem nc_slice {x y z : Value} (hy : ∀ q t, y ≠ .str q t) : NoCode (dSlice x y z) := fun o vs q t h e => by
  cases h; cases e
  intro z
  exact hy q t (Option.some.inj z)
/-- xs[lo:hi:st] -/
theorem o_slice {vl vu vs : Value} {lo hi st : Option Int} (S : St w B h own) (hl : h.IsList a xs.toArray) (hs : At h b (dSlice vl vu vs)) (pl : IsPart vl lo) (pu : IsPart vu hi) (ps : IsPart vs st) (h0 : st ≠ some 0) (hz : xs.length ≤ sizeLine)
    (q : ∀ c h', St w B h' ((c, dList (slicePick xs.toArray lo hi st).toList) :: own) → Q (.ref c) ⟨h', g, d, t, os⟩) : wpM w A (getItem (.ref a) (.ref b)) Q E ⟨h, g, d, t, os⟩ := by
  obtain ⟨o, ho, rfl⟩ := hs
  refine wpAny_getItem_list_slice hl ⟨_, ho, rfl, rfl⟩ pl pu ps h0 (q _ _ (S.alloc ⟨0, ?_⟩ nc_list rfl)) (by rw [List.size_toArray]; exact hz)
  simp
theorem r_Slice {env : Env} {lo hi st : Option Expr} {pos : Pos} (q : wpM w A (evalPart lo env) (fun x s₁ => wpM w A (evalPart hi env) (fun y s₂ => wpM w A (evalPart st env) (fun z s₃ => ∃ h' t' B own, s₃ = ⟨h', g, d, t', os⟩ ∧ St w B h' own ∧ (∀ q t, y ≠ .str q t) ∧
    ∀ c h'', St w B h'' ((c, dSlice x y z) :: own) → Q (.ref c) ⟨h'', g, d, t', os⟩) E s₂) E s₁) E ⟨h, g, d, t, os⟩) : wpM w A (eval (.Slice lo hi st pos) env) Q E ⟨h, g, d, t, os⟩ := by
  refine wpAny_Slice (wpAny_mono q (fun x s₁ z => wpAny_mono z (fun y s₂ z => wpAny_mono z (fun v s₃ z => ?_) fun _ _ e => e) fun _ _ e => e) fun _ _ e => e)
  obtain ⟨h', t', B, own, rfl, S, hy, k⟩ := z
  exact k _ _ (S.alloc (dd := dSlice x y v) rfl (nc_slice hy) rfl)
theorem part_none {env : Env} {s : Shared} (q : Q .none s) : wpM w A (evalPart none env) Q E s := wpAny_pure q
theorem part_some {env : Env} {e : Expr} {s : Shared} (q : wpM w A (eval e env) Q E s) : wpM w A (evalPart (some e) env) Q E s := q
theorem sub_slice {env : Env} {value : Expr} {lo hi : Option Expr} {p pos : Pos}
    (q : wpM w A (eval value env) (fun o s₁ => wpM w A (eval (.Slice lo hi none p) env) (fun i s₂ => s₂.TypeIs o "list" ∧ wpM w A (getItem o i) Q E s₂) E s₁) E ⟨h, g, d, t, os⟩)
    (ht : ∀ o r, letTemporaryGo value o r = pure () := by intro _ _; rfl) :
    wpM w A (eval (.Subscript value (.Slice lo hi none p) pos) env) Q E ⟨h, g, d, t, os⟩ := wpAny_Subscript_Slice slot_list_getitem.lookup q ht
theorem sub_sliceS {env : Env} {value st : Expr} {lo hi : Option Expr} {p pos : Pos}
    (q : wpM w A (eval value env) (fun o s₁ => wpM w A (eval (.Slice lo hi (some st) p) env) (fun i s₂ => s₂.TypeIs o "list" ∧ wpM w A (getItem o i) Q E s₂) E s₁) E ⟨h, g, d, t, os⟩)
    (ht : ∀ o r, letTemporaryGo value o r = pure () := by intro _ _; rfl) :
    wpM w A (eval (.Subscript value (.Slice lo hi (some st) p) pos) env) Q E ⟨h, g, d, t, os⟩ := wpAny_Subscript_Slice_step slot_list_getitem.lookup q ht
/-- a, b, .. = a tuple -/
theorem o_unpack {env : Env} {elts : List Expr} {k : Nat} {pos : Pos} {Q : Unit → Shared → Prop} (ha : A.handled = none) (S : St w B h own) (ht : At h a (dTup xs)) (hn : (assignEach elts env).length = xs.length) (hst : (assignEach elts env).findIdx? (·.1) = none)
    (q : ∀ h', St w B h' own → wpM w A (assignInOrder ((assignEach elts env).map (·.2)) xs) Q E ⟨h', g, d, t, os⟩) : wpM w A (assign (.Tuple elts k pos) env (.ref a)) Q E ⟨h, g, d, t, os⟩ :=
  assign_Tuple_tuple ha ht.tup (by rw [hn, List.size_toArray]) hst fun h' x => by
    have := q h' (S.extNew x)
    simpa using this
theorem o_inOrder_nil {Q : Unit → Shared → Prop} {s : Shared} {ts : List (Value → Sem Unit)} (q : Q () s) : wpM w A (assignInOrder ts []) Q E s := by
  cases ts <;> exact wpAny_pure q
theorem o_inOrder {Q : Unit → Shared → Prop} {s : Shared} {f : Value → Sem Unit} {ts : List (Value → Sem Unit)} {x : Value} {xs : List Value} (q : wpM w A (f x) (fun _ s' => wpM w A (assignInOrder ts xs) Q E s') E s) : wpM w A (assignInOrder (f :: ts) (x :: xs)) Q E s := by
  unfold assignInOrder
  exact wpAny_bind (wpAny_holding q)
def dRIt (x left : Int) (o : Obj) : Prop := o = { cls := .type "range_iterator", dict := none, data := .fields #[rawInt x, rawInt left, rawInt 1], slots := #[] }
theorem nc_rit {x left : Int} : NoCode (dRIt x left) := fun o vs q t h e => by
  cases h; cases e
  exact fun z => by cases z
section
variable {cs : Scope} {cn : Str} {cd : Value} {cl : List (Str × Addr)} {L f : Addr} {x : Str} {px pos : Pos} {iter : Expr} {body : List Stmt} {l : List (Str × Value)} {rest : Led} {Q : Flow → Shared → Prop}
/-- for x in range(k) -/
theorem for_range {k : Nat} (J : Nat → Heap → List (Str × Value) → Led → Prop) (ao : AOk A n u)
    (hiter : wpM w A (eval iter (envX cn cs L f cd cl)) (fun v s' => ∃ ra h' t' l rest, v = .ref ra ∧ s' = ⟨h', g, d, t', os⟩ ∧ At h' ra (dRange k) ∧ St w B h' ((L, dNs (lk l)) :: rest) ∧ J 0 B l rest) E ⟨h, g, d, t, os⟩)
    (turn : ∀ i tk B' l' rest' it h' t' E' (Post : Flow → Shared → Prop), i < k → J i B' l' rest' → Ext B B' → St w B' h' ((it, dRIt ((i : Int) + 1) ((k : Int) - i - 1)) :: (L, dNs (lk (setL x (.int i tk) l'))) :: rest') →
      (∀ fl h'' t'' B'' l'' rest'', fl = .next ∨ fl = .cont → Ext B' B'' → St w B'' h'' ((it, dRIt ((i : Int) + 1) ((k : Int) - i - 1)) :: (L, dNs (lk l'')) :: rest'') → J (i + 1) B'' l'' rest'' → Post fl ⟨h'', g, d, t'', os⟩) → (∀ s', Q .next s' → Post .brk s') → (∀ v s', Q (.ret v) s' → Post (.ret v) s') →
      wpM w A (execs body (envX cn cs L f cd cl)) Post E' ⟨h', g, d, t', os⟩)
    (done : ∀ B' l' rest' h' t', J k B' l' rest' → Ext B B' → St w B' h' ((L, dNs (lk l')) :: rest') → Q .next ⟨h', g, d, t', os⟩) (hkb : k < 2 ^ 60)
    (hs : ∀ v, foldedSetIterable iter (envX cn cs L f cd cl) v = pure v := by intro _; rfl)
    (hk : cs.kind = .function := by rfl) (hx : (envX cn cs L f cd cl).kindOf x = some .local := by rfl) :
    wpM w A (exec (.For (.Name x px) iter body [] pos) (envX cn cs L f cd cl)) Q E ⟨h, g, d, t, os⟩ := by
  refine wpAny_For (wpAny_mono hiter (fun v s' z => ?_) fun _ _ e => e) hs
  obtain ⟨ra, h₁, t₁, l, rest, rfl, rfl, ⟨o, ho, x1, y1, z1, rfl⟩, S, j0⟩ := z
  have hsm : Builtin.Range.small 0 (k : Int) 1 = true := by
    unfold Builtin.Range.small Builtin.Range.rangeFitsLong
    rw [rangeSize_one]
    simp only [Bool.and_eq_true, Bool.or_eq_true, decide_eq_true_eq, beq_iff_eq]
    refine ⟨⟨⟨⟨?_, ?_⟩, ?_⟩, ?_⟩, .inr ?_⟩ <;> (try split) <;> (try simp only [decide_eq_true_eq, Bool.and_eq_true]) <;> omega
  refine wpAny_pyIter_range ho hsm ?_
  have hrs : Builtin.Range.rangeSize 0 (k : Int) 1 = k := by rw [rangeSize_one]; split <;> omega
  rw [hrs]
  have S1 : St w B (h₁.push { cls := .type "range_iterator", data := .fields #[rawInt 0, rawInt (k : Int), rawInt 1] }) ((h₁.objs.size, dRIt 0 k) :: (L, dNs (lk l)) :: rest) := S.alloc (dd := dRIt 0 k) rfl nc_rit rfl
  refine codeAny_forLoop (fun m s' => ∃ i h' t' B' l' rest', m + i = k ∧ s' = ⟨h', g, d, t', os⟩ ∧ Ext B B' ∧ St w B' h' ((h₁.objs.size, dRIt (i : Nat) ((k : Int) - (i : Nat))) :: (L, dNs (lk l')) :: rest') ∧ J i B' l' rest') ?_ k
    ⟨0, _, _, B, l, rest, rfl, rfl, ExtT.refl _ _, by simpa using S1, j0⟩
  rintro m s' ⟨i, h', t', B', l', rest', hki, rfl, X, S', j⟩
  obtain ⟨o, ho', e⟩ := S'.mem .head
  by_cases hik : i = k
  · subst hik
    refine wpAny_pyNext_range_end ao.hd (ho'.trans (congrArg some e)) (by omega) fun h₂ x₂ => wpAny_execs_nil ?_
    exact done B' l' rest' h₂ t' j X (S'.lose x₂)
  · have hlt : i < k := by omega
    refine wpAny_pyNext_range_item (ho'.trans (congrArg some e)) (by omega) fun h₂ i₂ x₂ => ?_
    have S2 := S'.upd (dd' := dRIt ((i : Int) + 1) ((k : Int) - i - 1)) .head nc_rit x₂ ⟨_, i₂, rfl⟩
    refine wpAny_assign_Name (r_store S2 (.tail .head) (fun h₃ t₃ S3 => ?_) hk hx)
    have e1 : ((i + 1 : Nat) : Int) = (i : Int) + 1 := rfl
    have e2 : (k : Int) - ((i + 1 : Nat) : Int) = (k : Int) - i - 1 := by rw [e1]; exact (Int.sub_sub _ _ _).symm
    refine turn i _ B' l' rest' _ h₃ t₃ _ _ hlt j X S3 (fun fl h₅ t₅ B₅ l₅ r₅ e X₅ S₅ j₅ => ?_) (fun _ z => z) (fun _ _ z => z)
    rcases e with rfl | rfl <;> exact ⟨m - 1, by omega, i + 1, h₅, t₅, B₅, l₅, r₅, by omega, rfl, X.trans X₅, by rw [e2, e1]; exact S₅, j₅⟩
end
end

section
variable {w : World} {A : Around} {E : Value → Shared → Prop} {a : Addr} {first : List Value} {e : Expr} {es : List Expr} {env : Env} {pos : Pos} {s : Shared} {Q : Value → Shared → Prop} {id : String}
theorem cwf_cons (q : wpM w A (spliced (backTo pos (starEach (e :: es) env))) (fun vs s₁ => (∃ fd, At s₁.heap a (dFun fd)) ∧ wpM w A (call (.ref a) (first ++ vs) []) Q E s₁) E s)
    (he : starEach (e :: es) env = (false, eval e env) :: starEach es env) : wpM w A (callWith pos (.ref a) first (backTo pos (starEach (e :: es) env)) (backToKw pos (keywordEach [] env))) Q E s :=
  cw_fun (args_cons q he)
theorem cwf_nil (q : (∃ fd, At s.heap a (dFun fd)) ∧ wpM w A (call (.ref a) (first ++ []) []) Q E s) : wpM w A (callWith pos (.ref a) first (backTo pos (starEach [] env)) (backToKw pos (keywordEach [] env))) Q E s :=
  cw_fun (args_nil q)
theorem cwb_cons (q : wpM w A (spliced (backTo pos (starEach (e :: es) env))) (fun vs s₁ => wpM w A (call (.builtin id) (first ++ vs) []) Q E s₁) E s)
    (he : starEach (e :: es) env = (false, eval e env) :: starEach es env) (hp : (backTo pos (starEach es env)).any (·.1) = false) : wpM w A (callWith pos (.builtin id) first (backTo pos (starEach (e :: es) env)) (backToKw pos (keywordEach [] env))) Q E s := by
  refine callWith_builtin ?_ (args_cons q he)
  rw [he]
  show (false || (backTo pos (starEach es env)).any (·.1)) = false
  rw [hp]; rfl
theorem cwt_cons (q : wpM w A (spliced (backTo pos (starEach (e :: es) env))) (fun vs s₁ => wpM w A (call (.type id) (first ++ vs) []) Q E s₁) E s)
    (he : starEach (e :: es) env = (false, eval e env) :: starEach es env) (hp : (backTo pos (starEach es env)).any (·.1) = false) : wpM w A (callWith pos (.type id) first (backTo pos (starEach (e :: es) env)) (backToKw pos (keywordEach [] env))) Q E s := by
  refine PyProof.Rows.callWith_type ?_ (args_cons q he)
  rw [he]
  show (false || (backTo pos (starEach es env)).any (·.1)) = false
  rw [hp]; rfl
end
section
variable {w : World} {A : Around} {E : Value → Shared → Prop} {B h : Heap} {g : Array GenState} {d : Drawn} {t : Nat} {os : OsState} {own own' : Led} {fa : Addr}
variable {cs : Scope} {cn : Str} {cd : Value} {cl : List (Str × Addr)} {L f : Addr} {pos : Pos} {test : Expr} {body : List Stmt} {l : List (Str × Value)} {rest : Led} {Q : Flow → Shared → Prop} {k : Nat}
theorem r_while (J : Nat → Heap → List (Str × Value) → Led → Prop) (S : St w B h (rest ++ [(L, dNs (lk l))])) (j0 : J k B l rest)
    (turn : ∀ m B' l' rest' h' t' E' (Post : Flow → Shared → Prop) (Pe : Shared → Prop), J m B' l' rest' → Ext B B' → St w B' h' (rest' ++ [(L, dNs (lk l'))]) →
      (∀ fl m' h'' t'' B'' l'' rest'', fl = .next ∨ fl = .cont → m' < m → Ext B' B'' → St w B'' h'' (rest'' ++ [(L, dNs (lk l''))]) → J m' B'' l'' rest'' → Post fl ⟨h'', g, d, t'', os⟩) → (∀ s', Q .next s' → Post .brk s') → (∀ v s', Q (.ret v) s' → Post (.ret v) s') → (∀ s', Q .next s' → Pe s') →
      wpM w A (isTrue test (envX cn cs L f cd cl) (eval test (envX cn cs L f cd cl))) (fun b s₂ => if b = true then wpM w A (execs body (envX cn cs L f cd cl)) Post E' s₂ else Pe s₂) E' ⟨h', g, d, t', os⟩) : wpM w A (exec (.While test body [] pos) (envX cn cs L f cd cl)) Q E ⟨h, g, d, t, os⟩ := by
  refine wpAny_While (codeAny_whileLoop (fun m s' => ∃ h' t' B' l' rest', s' = ⟨h', g, d, t', os⟩ ∧ Ext B B' ∧ St w B' h' (rest' ++ [(L, dNs (lk l'))]) ∧ J m B' l' rest') ?_ k ⟨h, t, B, l, rest, rfl, ExtT.refl _ _, S, j0⟩)
  rintro m s' ⟨h', t', B', l', rest', rfl, X, S', j⟩
  refine wpAny_mono (turn m B' l' rest' h' t' _ (fun fl s₃ => match fl with
          | .next | .cont => ∃ m' h'' t'' B'' l'' rest'', m' < m ∧ s₃ = ⟨h'', g, d, t'', os⟩ ∧ Ext B' B'' ∧ St w B'' h'' (rest'' ++ [(L, dNs (lk l''))]) ∧ J m' B'' l'' rest''
          | .brk => Q .next s₃
          | .ret v => Q (.ret v) s₃) (fun s => Q .next s) j X S' (fun fl m' h₅ t₅ B₅ l₅ r₅ e hm X₅ S₅ j₅ => by rcases e with rfl | rfl <;> exact ⟨m', h₅, t₅, B₅, l₅, r₅, hm, rfl, X₅, S₅, j₅⟩) (fun _ z => z) (fun _ _ z => z) (fun _ z => z)) (fun b s₂ z => ?_) fun _ _ e => e
  cases b with
  | false => exact wpAny_execs_nil z
  | true =>
    refine wpAny_mono z (fun fl s₃ z => ?_) fun _ _ e => e
    cases fl with
    | next => obtain ⟨m', h₅, t₅, B₅, l₅, r₅, hm, rfl, X₅, S₅, j₅⟩ := z; exact ⟨m', hm, h₅, t₅, B₅, l₅, r₅, rfl, X.trans X₅, S₅, j₅⟩
    | cont => obtain ⟨m', h₅, t₅, B₅, l₅, r₅, hm, rfl, X₅, S₅, j₅⟩ := z; exact ⟨m', hm, h₅, t₅, B₅, l₅, r₅, rfl, X.trans X₅, S₅, j₅⟩
    | brk => exact z
    | ret v => exact z
theorem o_truthy_fn {Q : Bool → Shared → Prop} {dd : Option Addr} {fd : FuncData} (ho : At h fa (dObj { cls := .type "function", dict := dd, data := .func fd })) (q : Q true ⟨h, g, d, t, os⟩) : wpM w A (truthy (.ref fa)) Q E ⟨h, g, d, t, os⟩ := by
  obtain ⟨o, ho, rfl⟩ := ho
  have hT : (⟨h, g, d, t, os⟩ : Shared).TypeIs (.ref fa) "function" := ⟨_, ho, rfl⟩
  have h1 : typeLookup (.type "function") "__bool__" = pure none := by rw [typeLookup_type, builtinLookup_eq_fast]; kernel_rfl
  have h2 : typeLookup (.type "function") "__len__" = pure none := by rw [typeLookup_type, builtinLookup_eq_fast]; kernel_rfl
  unfold truthy callSpecial?
  refine wpAny_bind (wpAny_bind (wpAny_specialOf hT h1 (wpAny_pure ?_)))
  refine wpAny_bind (m := specialOf _ _) (wpAny_specialOf hT h2 ?_)
  rw [if_pos (by decide)]
  exact wpAny_pure q
theorem St.sublist (S : St w B h own) (hs : own'.Sublist own) : St w B h own' := S.sub (fun _ hp => hs.subset hp) (S.nd.sublist (hs.map _))
theorem fnAt {dd : Option Addr} {fd : FuncData} {sl : Array (Option Value)} {c : Value} (x : At h fa (dObj ⟨c, dd, .func fd, sl⟩)) : At h fa (dFun fd) := let ⟨o, e, r⟩ := x; ⟨o, e, by show o.data = _; rw [r]⟩
theorem St.ntb {dd : Obj → Prop} (S : St w B h own) (m : LMem fa dd own) : fa ∉ Tb := (S.nw _ m.mem).2.2.1
theorem o_truthy_none {Q : Bool → Shared → Prop} {s : Shared} (q : Q false s) : wpM w A (truthy .none) Q E s := fun _ _ _ => q
theorem o_isNot_ref {Q : Value → Shared → Prop} {s : Shared} (q : Q (.bool true) s) : wpM w A (compareOp .IsNot (.ref fa) .none) Q E s := isNot_none q
theorem o_isNot_nn {Q : Value → Shared → Prop} {s : Shared} (q : Q (.bool false) s) : wpM w A (compareOp .IsNot .none .none) Q E s := isNot_none q
theorem o_is_ref {Q : Value → Shared → Prop} {s : Shared} (q : Q (.bool false) s) : wpM w A (compareOp .Is (.ref fa) .none) Q E s := is_none q
theorem o_is_nn {Q : Value → Shared → Prop} {s : Shared} (q : Q (.bool true) s) : wpM w A (compareOp .Is .none .none) Q E s := is_none q
theorem o_is {v : Value} {Q : Value → Shared → Prop} {s : Shared} (q : Q (.bool (v == .none)) s) : wpM w A (compareOp .Is v .none) Q E s := is_none q
theorem o_isNot {v : Value} {Q : Value → Shared → Prop} {s : Shared} (q : Q (.bool (!(v == .none))) s) : wpM w A (compareOp .IsNot v .none) Q E s := isNot_none q
end
local macro_rules | `(tactic| wtm_at "mine w_cw") => `(tactic| first
  | with_reducible refine wpAny_Call_Name_kw ?_
  | ((with_reducible refine' cwf_cons ?_ ?zzhe); (case zzhe => exact rfl))
  | with_reducible refine cwf_nil ?_
  | ((with_reducible refine' cwb_cons ?_ ?zzhe ?zzhp); (case zzhe => exact rfl); (case zzhp => exact rfl))
  | ((with_reducible refine' cwt_cons ?_ ?zzhe ?zzhp); (case zzhe => exact rfl); (case zzhp => exact rfl)))
set_option hygiene false in
local macro_rules | `(tactic| wtm_at "mine w_meth") => `(tactic| first
  | ((with_reducible refine' methodCall_KW ?_ ?zzhe); (case zzhe => exact rfl))
  | ((with_reducible refine' get_method ?zzho ?zzhn ?_); (case zzho => wtm_at "mine kn"); (case zzhn => wtm_at "mine w_tl")))
set_option hygiene false in
local macro_rules | `(tactic| wtm_at "mine w_bi") => `(tactic| first
  | ((refine' o_len ?zzhl ?zzhz ?_); (case zzhl => wtm_at "mine kn"); (case zzhz => assumption); intro t')
  | ((refine' o_range S ?_); clear S; intro a h' t' S)
  | ((refine' o_max2 (AOk.hd (by assumption)) S ?_); clear S; intro h' t' x' S))
local macro_rules | `(tactic| wtm_at "mine w_un") => `(tactic| first | wtm_at "mine w_store" | refine wpAny_assign_Name ?_ | refine o_inOrder ?_ | refine o_inOrder_nil ?_)
local macro_rules | `(tactic| wtm_at "mine w_at") => `(tactic| ((with_reducible refine' Assign_Tuple ?_ ?zzhs ?zzhw); (case zzhs => exact rfl); (case zzhw => exact rfl)))
set_option hygiene false in
local macro_rules | `(tactic| wtm_at "mine w_tr") => `(tactic| first
  | ((with_reducible refine' wpAny_isTrue_value ?_ ?zzhe); (case zzhe => exact rfl))
  | with_reducible refine' o_truthy_none ?_
  | ((with_reducible refine' o_truthy_fn ?zzho ?_); (case zzho => wtm_at "mine kn")))
local macro_rules | `(tactic| wtm_at "mine w_is") => `(tactic| first | with_reducible refine o_isNot_ref ?_ | with_reducible refine o_isNot_nn ?_ | with_reducible refine o_is_ref ?_ | with_reducible refine o_is_nn ?_)
local macro_rules | `(tactic| wtm_at "mine w_slc") => `(tactic| first
  | ((with_reducible refine' sub_slice ?_ ?zzht); (case zzht => (intro _ _; rfl)))
  | ((with_reducible refine' sub_sliceS ?_ ?zzht); (case zzht => (intro _ _; rfl)))
  | with_reducible refine' r_Slice ?_
  | with_reducible refine' part_none ?_
  | with_reducible refine' part_some ?_)
local macro_rules | `(tactic| wtm_at "mine w3") => `(tactic| first | wtm_at "mine w_slc" | wtm_at "mine w2" | wtm_at "mine w_is" | wtm_at "mine w_cw" | wtm_at "mine w_meth" | wtm_at "mine w_tr" | wtm_at "mine w_at")

section
variable {w : World} {A : Around} {E : Value → Shared → Prop} {B h : Heap} {g : Array GenState} {d : Drawn} {t : Nat} {os : OsState} {own own' : Led} {la it : Addr} {xs : List Value} {n u : Nat}
theorem o_iter {Q : Value → Shared → Prop} (S : St w B h own) (hl : At h la (dList xs)) (q : ∀ it h', St w B h' ((it, dLIt la 0) :: own) → Q (.ref it) ⟨h', g, d, t, os⟩) :
    wpM w A (call (.builtin "iter") [.ref la] []) Q E ⟨h, g, d, t, os⟩ := by
  refine call_function_entry (by decide +kernel) (by decide +kernel) kdk_entry_iter (kdk_args_iter _) ?_
  unfold Builtin.«iter»
  refine wpAny_bind (m := someArgs "iter" 1 2 _) (wpAny_of_eq (a := [Value.ref la]) (by first | rfl | kernel_rfl!) ?_)
  show wpAny _ _ (pyIter (.ref la) >>= _) _ _ _
  refine wpAny_bind (wpAny_pyIter_list hl.list ?_)
  exact wpAny_pure ⟨_, rfl, q _ _ (S.alloc (dd := dLIt la 0) ⟨rfl, rfl⟩ nc_lit rfl)⟩
theorem o_next {Q : Value → Shared → Prop} {i : Nat} {x : Value} (S : St w B h own) (u : LUp it (dLIt la i) (dLIt la (i + 1)) own own') (hl : At h la (dList xs)) (hx : xs[i]? = some x) (q : ∀ h', St w B h' own' → Q x ⟨h', g, d, t, os⟩) :
    wpM w A (call (.builtin "next") [.ref it] []) Q E ⟨h, g, d, t, os⟩ := by
  have hit := ((S.nw _ u.mem).1).lit
  have ho := hit
  obtain ⟨o, ho, hc, hd⟩ := ho
  have hl' := hl.list
  obtain ⟨ol, hol, _, nl, hdl⟩ := hl'
  refine call_function_entry (by decide +kernel) (by decide +kernel) kdk_entry_next (kdk_args_next _) ?_
  unfold Builtin.«next»
  refine wpAny_bind (m := someArgs "next" 1 2 _) (wpAny_of_eq (a := [Value.ref it]) (by first | rfl | kernel_rfl!) ?_)
  dsimp only
  refine wpAny_bind (wpAny_specialOf (name := Str.ofString "__next__") hit.typeIs slot_listiter_next.lookup ?_)
  refine wpAny_ite_split (fun hab => absurd hab (by decide)) (fun _ => ?_)
  refine wpAny_bind (wpAny_callSpecial?_slot (name := Str.ofString "__next__") hit.typeIs slot_listiter_next
    (wpAny_call_entry slot_listiter_next hit.typeIs entry_listiter_next ?_ (args_listiter_next _)))
  show wpAny _ _ (field (.ref it) 0 >>= _) _ _ _
  refine wpAny_bind (wpAny_field ho hd (x := .ref la) rfl ?_)
  show wpAny _ _ (if (Value.ref la == Value.none) = true then _ else _) _ _ _
  rw [if_neg (show ¬ ((Value.ref la == Value.none) = true) from Bool.false_ne_true)]
  show wpAny _ _ (field (.ref it) 1 >>= _) _ _ _
  refine wpAny_bind (wpAny_field ho hd (x := .int i 0) rfl ?_)
  show wpAny _ _ (seqItems? (.ref la) >>= _) _ _ _
  refine wpAny_bind (wpAny_seqItems hol hdl ?_)
  have hx' : xs.toArray[i]? = some x := by simpa using hx
  simp only [Int.toNat_natCast, hx']
  refine wpAny_bind (wpAny_setField ho hd (by simp) (wpAny_pure ⟨x, rfl, ?_⟩))
  refine wpAny_pure ⟨x, rfl, q _ (S.upd u nc_lit (Heap.SameBut.update ..) ⟨_, Heap.get?_update_self _ ho (Obj.isFreed_of_fields (Obj.data_mapFields hd _)), (Obj.cls_mapFields ..).trans hc, ?_⟩)⟩
  rw [Obj.data_mapFields hd]; simp [rawInt]
theorem o_isSelf {Q : Value → Shared → Prop} (q : Q (.bool true) ⟨h, g, d, t, os⟩) : wpM w A (compareOp .Is (.ref la) (.ref la)) Q E ⟨h, g, d, t, os⟩ := wpAny_is_ref_self q
theorem o_isOther {Q : Value → Shared → Prop} {y : Addr} {ox oy : Obj} (hne : la ≠ y) (hx : h.get? la = some ox) (hy : h.get? y = some oy) (hnt : ox.cls ≠ .type "tuple") (q : Q (.bool false) ⟨h, g, d, t, os⟩) : wpM w A (compareOp .Is (.ref la) (.ref y)) Q E ⟨h, g, d, t, os⟩ := by
  show wpAny _ _ (do return .bool (← isSame (.ref la) (.ref y))) Q E _
  exact wpAny_bind (wpAny_isSame_ref_other hne hx hy hnt (wpAny_pure q))
theorem for_iter {cs : Scope} {cn : Str} {cd : Value} {cl : List (Str × Addr)} {L f : Addr} {x : Str} {px pos : Pos} {iter : Expr} {body : List Stmt} {l : List (Str × Value)} {rest : Led} {Q : Flow → Shared → Prop} {i₀ : Nat}
    (J : Nat → Heap → List (Str × Value) → Led → Prop) (a : AOk A n u) (S : St w B h ((L, dNs (lk l)) :: (it, dLIt la i₀) :: rest)) (hla : At B la (dList xs)) (hT : la ∉ Tb) (hi₀ : i₀ ≤ xs.length) (j0 : J i₀ B l rest)
    (hiter : ∀ Q' : Value → Shared → Prop, Q' (.ref it) ⟨h, g, d, t, os⟩ → wpM w A (eval iter (envX cn cs L f cd cl)) Q' E ⟨h, g, d, t, os⟩)
    (turn : ∀ i v B' l' rest' h' t' E' (Post : Flow → Shared → Prop), xs[i]? = some v → J i B' l' rest' → Ext B B' → St w B' h' ((L, dNs (lk (setL x v l'))) :: (it, dLIt la (i + 1)) :: rest') →
      (∀ fl h'' t'' B'' l'' rest'', fl = .next ∨ fl = .cont → Ext B' B'' → St w B'' h'' ((L, dNs (lk l'')) :: (it, dLIt la (i + 1)) :: rest'') → J (i + 1) B'' l'' rest'' → Post fl ⟨h'', g, d, t'', os⟩) → (∀ s', Q .next s' → Post .brk s') → (∀ v s', Q (.ret v) s' → Post (.ret v) s') →
      wpM w A (execs body (envX cn cs L f cd cl)) Post E' ⟨h', g, d, t', os⟩)
    (done : ∀ B' l' rest' h' t', J xs.length B' l' rest' → Ext B B' → St w B' h' ((L, dNs (lk l')) :: rest') → Q .next ⟨h', g, d, t', os⟩)
    (hs : ∀ v, foldedSetIterable iter (envX cn cs L f cd cl) v = pure v := by intro _; rfl)
    (hk : cs.kind = .function := by rfl) (hx : (envX cn cs L f cd cl).kindOf x = some .local := by rfl) :
    wpM w A (exec (.For (.Name x px) iter body [] pos) (envX cn cs L f cd cl)) Q E ⟨h, g, d, t, os⟩ := by
  refine wpAny_For (hiter _ ?_) hs
  refine wpAny_pyIter_listiter (S.mem (.tail .head)).lit ?_
  refine codeAny_forLoop (fun k s' => ∃ i h' t' B' l' rest', k + i = xs.length ∧ s' = ⟨h', g, d, t', os⟩ ∧ Ext B B' ∧ St w B' h' ((L, dNs (lk l')) :: (it, dLIt la i) :: rest') ∧ J i B' l' rest') ?_ (xs.length - i₀)
    ⟨i₀, _, _, B, l, rest, by omega, rfl, ExtT.refl _ _, S, j0⟩
  rintro k s' ⟨i, h', t', B', l', rest', hki, rfl, X, S', j⟩
  have hl' : At h' la (dList xs) := (hla.ext X hT).ext S'.keep hT
  cases hv : xs[i]? with
  | none =>
    have hi : i = xs.length := by have := List.getElem?_eq_none_iff.mp hv; omega
    subst hi
    refine wpAny_pyNext_list_end (items := xs.toArray) a.hd (S'.mem (.tail .head)).lit hl'.list (by simpa using hv) fun h₂ x₂ => wpAny_execs_nil ?_
    have S'' : St w B' h' ((it, dLIt la xs.length) :: (L, dNs (lk l')) :: rest') := S'.sub (fun p hp => by
      cases hp with
      | head => exact .tail _ (.head _)
      | tail _ hp => cases hp with
        | head => exact .head _
        | tail _ hp => exact .tail _ (.tail _ hp)) (by
      have := S'.nd
      simp only [List.map_cons, List.nodup_cons, List.mem_cons, not_or] at this ⊢
      exact ⟨⟨fun e => this.1.1 e.symm, this.2.1⟩, this.1.2, this.2.2⟩)
    exact done B' l' rest' h₂ t' j X (S''.lose x₂)
  | some v =>
    refine wpAny_pyNext_list_item (items := xs.toArray) (S'.mem (.tail .head)).lit hl'.list (by simpa using hv) fun h₂ i₂ x₂ => ?_
    have S2 := S'.upd (dd' := dLIt la (i + 1)) (.tail .head) nc_lit x₂ i₂
    refine wpAny_assign_Name (r_store S2 .head (fun h₃ t₃ S3 => ?_) hk hx)
    have hlt : i < xs.length := (List.getElem?_eq_some_iff.mp hv).1
    refine turn i v B' l' rest' h₃ t₃ _ _ hv j X S3 (fun fl h₅ t₅ B₅ l₅ r₅ e X₅ S₅ j₅ => ?_) (fun _ z => z) (fun _ _ z => z)
    rcases e with rfl | rfl <;> exact ⟨k - 1, by omega, i + 1, h₅, t₅, B₅, l₅, r₅, by omega, rfl, X.trans X₅, S₅, j₅⟩
end
theorem St.rot {w : World} {B h : Heap} {p q : Addr × (Obj → Prop)} {new rest : Led} (S : St w B h (new ++ p :: q :: rest)) : St w B h (p :: q :: new) := by
  refine S.sub (fun x hx => ?_) ?_
  · rcases List.mem_cons.mp hx with rfl | hx
    · exact List.mem_append_right _ (.head _)
    · rcases List.mem_cons.mp hx with rfl | hx
      · exact List.mem_append_right _ (.tail _ (.head _))
      · exact List.mem_append_left _ hx
  · have nd := S.nd
    simp only [List.map_append, List.map_cons, List.nodup_append, List.nodup_cons, List.mem_cons, not_or] at nd ⊢
    obtain ⟨a, ⟨⟨b1, b2⟩, b3, b4⟩, c⟩ := nd
    exact ⟨⟨b1, fun hm => c _ hm _ (.inl rfl) rfl⟩, fun hm => c _ hm _ (.inr (.inl rfl)) rfl, a⟩
theorem St.swap {w : World} {B h : Heap} {p q : Addr × (Obj → Prop)} {rest : Led} (S : St w B h (p :: q :: rest)) : St w B h (q :: p :: rest) := by
  refine S.sub (fun x hx => ?_) ?_
  · rcases List.mem_cons.mp hx with rfl | hx
    · exact .tail _ (.head _)
    · rcases List.mem_cons.mp hx with rfl | hx
      · exact .head _
      · exact .tail _ (.tail _ hx)
  · have nd := S.nd
    simp only [List.map_cons, List.nodup_cons, List.mem_cons, not_or] at nd ⊢
    exact ⟨⟨fun e => nd.1.1 e.symm, nd.2.1⟩, nd.1.2, nd.2.2⟩
section
variable {w : World} {A : Around} {E : Value → Shared → Prop} {h : Heap} {g : Array GenState} {d : Drawn} {t : Nat} {os : OsState} {la : Addr} {xs : List Value}
theorem get_append {pl : Sem Bool} {Q : Value × List Value → Shared → Prop} (hl : At h la (dList xs)) (q : Q (.builtin "list.append", [.ref la]) ⟨h, g, d, t, os⟩) : wpM w A (getMethod (.ref la) "append" pl) Q E ⟨h, g, d, t, os⟩ := by
  obtain ⟨o, ho, n, rfl⟩ := hl
  exact Calls.getMethod_list_append ho rfl rfl q
end
set_option hygiene false in
local macro_rules | `(tactic| wtm_at "mine w_app") => `(tactic| first
  | ((with_reducible refine' wpAny_Expr_any ?_ ?zzhi ?zzhs); (case zzhi => exact rfl); (case zzhs => exact rfl))
  | ((with_reducible refine' get_append ?zzho ?_); (case zzho => wtm_at "mine kn")))
local macro_rules | `(tactic| wtm_at "mine w4") => `(tactic| first | wtm_at "mine w3" | wtm_at "mine w_app")

section
variable {w : World} {A : Around} {E : Value → Shared → Prop} {B h : Heap} {g : Array GenState} {d : Drawn} {t : Nat} {os : OsState} {own own' : Led} {a L C : Addr}
variable {cn : Str} {cs sc : Scope} {cd : Value} {cl cl₀ : List (Str × Addr)} {x : Str} {pos : Pos} {v : Value} {l : List (Str × Value)} {c f : Addr} {Q : Value → Shared → Prop}
abbrev envK (sc : Scope) (cl : List (Str × Addr)) (C : Addr) (cn : Str) (cs : Scope) (L f : Addr) (cd : Value) (cl₀ : List (Str × Addr)) : Env := compEnvC sc cl C (envX cn cs L f cd cl₀)
theorem rk_local (S : St w B h own) (hm : LMem C (dNs (lk l)) own) (hv : lk l x = some v) (q : Q v ⟨h, g, d, t, os⟩)
    (hk : sc.kind = .function := by rfl) (hx : (envK sc cl C cn cs L f cd cl₀).kindOf x = some .local := by rfl) (hb : (x == ("__debug__" : Str)) = false := by decide) :
    wpM w A (eval (.Name x pos) (envK sc cl C cn cs L f cd cl₀)) Q E ⟨h, g, d, t, os⟩ := wpAny_Name (wpAny_loadName_local hk hx (S.mem hm).ns hv q) hb
theorem rk_cell (hc : cl.lookup x = some c) (hm : At h c (dCell (some v))) (q : Q v ⟨h, g, d, t, os⟩)
    (hk : sc.kind = .function := by rfl) (hx : (envK sc cl C cn cs L f cd cl₀).kindOf x = some .cell := by rfl) (hb : (x == ("__debug__" : Str)) = false := by decide) :
    wpM w A (eval (.Name x pos) (envK sc cl C cn cs L f cd cl₀)) Q E ⟨h, g, d, t, os⟩ := wpAny_Name (wpAny_loadName_cell hk hx hc hm.cell q) hb
theorem rk_glob (S : St w B h own) (hv : gl w.params x = some v) (q : Q v ⟨h, g, d, t, os⟩)
    (hk : sc.kind = .function := by rfl) (hx : (envK sc cl C cn cs L f cd cl₀).kindOf x = some .globalImplicit := by rfl) (hb : (x == ("__debug__" : Str)) = false := by decide) :
    wpM w A (eval (.Name x pos) (envK sc cl C cn cs L f cd cl₀)) Q E ⟨h, g, d, t, os⟩ := Name_function_global hk hx (loadGlobal_global (env := envK sc cl C cn cs L f cd cl₀) (gl_ns S.kinh) hv q) hb
theorem rk_store {Q : Unit → Shared → Prop} (S : St w B h own) (u : LUp C (dNs (lk l)) (dNs (lk (setL x v l))) own own') (q : ∀ h' t', St w B h' own' → Q () ⟨h', g, d, t', os⟩)
    (hk : sc.kind = .function := by rfl) (hx : (envK sc cl C cn cs L f cd cl₀).kindOf x = some .local := by rfl) : wpM w A (storeName (envK sc cl C cn cs L f cd cl₀) x v) Q E ⟨h, g, d, t, os⟩ :=
  wpAny_storeName_local hx ((S.nw _ u.mem).1).ns (fun h' hn hs => q h' _ (S.upd u nc_ns hs (At.of_ns (by rw [lk_setL]; exact hn))))
    (by show (sc.kind == .class || (sc.kind == .module && C != mainGlobals)) = false; rw [hk]; rfl)
end
set_option hygiene false in
local macro_rules | `(tactic| wtm_at "mine k_name") => `(tactic| first
  | ((with_reducible refine' rk_local S ?zzm ?zzv ?_ ?zzk ?zzx ?zzb); (case zzk => exact rfl); (case zzx => exact rfl); (case zzb => decide); (case zzm => wtm_at "mine m_lm"); (case zzv => wtm_at "mine w_lk"))
  | ((with_reducible refine' rk_cell ?zzc ?zzm ?_ ?zzk ?zzx ?zzb); (case zzk => exact rfl); (case zzx => exact rfl); (case zzb => decide); (case zzc => exact rfl); (case zzm => wtm_at "mine kn"))
  | ((with_reducible refine' rk_glob S ?zzv ?_ ?zzk ?zzx ?zzb); (case zzv => wtm_at "mine m_gl"); (case zzk => exact rfl); (case zzx => exact rfl); (case zzb => decide)))
set_option hygiene false in
local macro_rules | `(tactic| wtm_at "mine k_store") => `(tactic| 
  ((with_reducible refine' rk_store S ?zzu ?_ ?zzk ?zzx); (case zzk => exact rfl); (case zzx => exact rfl); (case zzu => wtm_at "mine m_lu"); clear S; intro h' t' S))
local macro_rules | `(tactic| wtm_at "mine w5") => `(tactic| first | wtm_at "mine w4" | wtm_at "mine k_name" | wtm_at "mine k_store" | refine wpAny_tests_nil ?_ | refine wpAny_tests_one ?_)
section
variable {w : World} {A : Around} {E : Value → Shared → Prop} {B h : Heap} {g : Array GenState} {d : Drawn} {t : Nat} {os : OsState} {own own' : Led} {a L la it : Addr} {xs : List Value} {n u : Nat}
theorem codeAny_compLoop_testsP {elt iter : Expr} {elts : List Expr} {x1 : Nat} {tp : Pos} {ifs : List Expr} {scope : Scope} {pos : Pos} {it acc : Value} {env : Env} {R : Result → Shared → Prop} {s : Shared} (I : Nat → Shared → Prop)
    (turn : ∀ n s, I n s → wpM w A (pyNext it) (fun r s₁ => match r with
      | none => R (.ok .next) s₁
      | some v => wpM w A (letOwnedTupleGo (.Tuple elts x1 tp) it v) (fun _ s₁ => wpM w A (assign (.Tuple elts x1 tp) env v) (fun _ s₂ =>
          wpM w A (forIn ifs true fun c r => if r = true then do let ok ← isTrue c env (eval c env); pure (ForInStep.yield ok) else pure (ForInStep.yield r)) (fun ok s₃ =>
            if ok = true then wpM w A (eval elt env) (fun x s₄ =>
              wpM w A (call (.builtin "list.append") [acc, x]) (fun _ s₅ => ∃ m, m < n ∧ I m s₅) (notedBy (model Pr w) A env fun e s' => R (.error e) s') s₄) (notedBy (model Pr w) A env fun e s' => R (.error e) s') s₃
            else ∃ m, m < n ∧ I m s₃) (notedBy (model Pr w) A env fun e s' => R (.error e) s') s₂) (notedBy (model Pr w) A env fun e s' => R (.error e) s') s₁) (notedBy (model Pr w) A env fun e s' => R (.error e) s') s₁) (notedBy (model Pr w) A env fun e s' => R (.error e) s') s)
    (n : Nat) (h : I n s) :
    codeAny (model Pr w) A (.compLoop (.ListComp elt [⟨.Tuple elts x1 tp, iter, ifs, 0⟩] scope pos) 0 it acc env) R s := by
  refine codeAny_loop rfl I (fun n s hI => ?_) n h
  show wpAny _ A ((compTurn (.ListComp elt [⟨.Tuple elts x1 tp, iter, ifs, 0⟩] scope pos) 0 it acc env).onRaise (fun x => do noteFrame x env; theTreesLotGoes x)) _ _ s
  refine wpAny_noted ?_
  rw [compTurn_list]
  refine wpAny_bind (wpAny_standAt (wpAny_bind (wpAny_mono (turn n s hI) (fun r s₁ h₁ => ?_) fun _ _ h' => h')))
  cases r with
  | none => exact wpAny_pure h₁
  | some v =>
    refine wpAny_bind (wpAny_mono h₁ (fun _ s₁ h₁ => ?_) fun _ _ h' => h')
    refine wpAny_bind (wpAny_mono h₁ (fun _ s₂ h₂ => wpAny_bind (wpAny_mono h₂ (fun ok s₃ h₃ => ?_) fun _ _ h' => h')) fun _ _ h' => h')
    cases ok with
    | false => exact wpAny_pure ⟨rfl, h₃⟩
    | true =>
      exact wpAny_bind (wpAny_bind (wpAny_mono h₃ (fun x s₄ h₄ => wpAny_bind (wpAny_mono h₄ (fun _ s₅ h₅ => wpAny_pure (wpAny_pure ⟨rfl, h₅⟩)) fun _ _ h' => h')) fun _ _ h' => h'))
theorem St.perm (S : St w B h own) (p : own.Perm own') : St w B h own' :=
  S.sub (fun _ hx => p.mem_iff.mpr hx) ((p.map (·.1)).nodup_iff.mp S.nd)
theorem St.newAt {dd : Obj → Prop} {h₁ : Heap} (S : St w B h own) (hk : ∀ b o, h.get? b = some o → h₁.get? b = some o) (hd : At h₁ h.objs.size dd) (nc : NoCode dd) : St w B h₁ ((h.objs.size, dd) :: own) := by
  obtain ⟨f1, f2, f3⟩ := S.fresh
  have S1 := S.keeps hk
  refine ⟨S1.keep, fun p hp => ?_, ?_, S1.tb, S1.kin⟩
  · rcases List.mem_cons.mp hp with rfl | hp
    · exact ⟨hd, f1, f2, nc⟩
    · exact S1.nw p hp
  · rw [List.map_cons, List.nodup_cons]
    exact ⟨f3, S.nd⟩
variable {cn : Str} {cs sc : Scope} {cd : Value} {cl cl₀ : List (Str × Addr)} {f : Addr}
theorem comp_core {elt iter : Expr} {elts : List Expr} {x1 : Nat} {tp pos : Pos} {ifs : List Expr} {RR : Value → Addr → Result → Shared → Prop} (J : Nat → List Value → Heap → Prop) (ha : A.handled = none) (S : St w B h own) (hla : At B la (dList xs)) (hT : la ∉ Tb) (hr : ∀ (i : Nat) v, xs[i]? = some v → ∃ T, v = .ref T) (j0 : J 0 [] B)
    (turn : ∀ i v ys B' l' D C it h' t' E', xs[i]? = some v → J i ys B' → Ext B B' → St w B' h' ((C, dNs (lk l')) :: (D, dList ys) :: (it, dLIt la (i + 1)) :: own) →
      wpM w A (assign (.Tuple elts x1 tp) (envK sc cl C cn cs L f cd cl₀) v) (fun _ s₂ =>
        wpM w A (forIn ifs true fun c r => if r = true then do let ok ← isTrue c (envK sc cl C cn cs L f cd cl₀) (eval c (envK sc cl C cn cs L f cd cl₀)); pure (ForInStep.yield ok) else pure (ForInStep.yield r)) (fun ok s₃ =>
          if ok = true then wpM w A (eval elt (envK sc cl C cn cs L f cd cl₀)) (fun y s₄ => ∃ h'' t'' B'' l'', s₄ = ⟨h'', g, d, t'', os⟩ ∧ Ext B' B'' ∧ St w B'' h'' ((C, dNs (lk l'')) :: (D, dList ys) :: (it, dLIt la (i + 1)) :: own) ∧ ys.length ≤ sizeLine ∧ J (i + 1) (ys ++ [y]) B'') E' s₃
          else ∃ h'' t'' B'' l'', s₃ = ⟨h'', g, d, t'', os⟩ ∧ Ext B' B'' ∧ St w B'' h'' ((C, dNs (lk l'')) :: (D, dList ys) :: (it, dLIt la (i + 1)) :: own) ∧ J (i + 1) ys B'') E' s₂) E' ⟨h', g, d, t', os⟩)
    (done : ∀ ys B' l' D C h' t', J xs.length ys B' → Ext B B' → St w B' h' ((C, dNs (lk l')) :: (D, dList ys) :: own) → RR (.ref D) C (.ok .next) ⟨h', g, d, t', os⟩)
    (hcell : ∀ y ∈ sc.names, y.2 ≠ .cell) (hkind : sc.kind = .function) :
    wpM w A (pyIter (.ref la)) (fun it s₂ => wpM w A (newList []) (fun acc s₃ => wpM w A (newFunctionEnv sc (envX cn cs L f cd cl₀).globals cl [] (envX cn cs L f cd cl₀).qual none .none (some (envX cn cs L f cd cl₀))) (fun cenv s₄ =>
      codeAny (model Pr w) A (.compStart (.ListComp elt [⟨.Tuple elts x1 tp, iter, ifs, 0⟩] sc pos) 0 it acc { cenv with scope := relabel sc (envX cn cs L f cd cl₀) }) (RR acc cenv.locals) s₄) E s₃) E s₂) E ⟨h, g, d, t, os⟩ := by
  refine wpAny_pyIter_list (S.old hla hT).list ?_
  have S1 : St w B (h.push { cls := .type "list_iterator", data := .fields #[.ref la, .int 0 0] }) ((h.objs.size, dLIt la 0) :: own) := S.alloc (dd := dLIt la 0) ⟨rfl, rfl⟩ nc_lit rfl
  generalize h.push { cls := .type "list_iterator", data := .fields #[.ref la, .int 0 0] } = h1 at S1 ⊢
  refine wpAny_newObj_type (wpAny_newFunctionEnv hcell (by intro y hy; simp at hy) (fun h₂ hns₂ hsb₂ => ?_) hkind)
  dsimp only at hns₂ hsb₂ ⊢
  have S2 : St w B (h1.push { cls := .type "list", dict := none, data := .seq ([] : List Value).toArray }) ((h1.objs.size, dList []) :: (h.objs.size, dLIt la 0) :: own) := S1.alloc (dd := dList []) ⟨0, rfl⟩ nc_list rfl
  generalize h1.push { cls := .type "list", dict := none, data := .seq ([] : List Value).toArray } = h2 at S2 hns₂ hsb₂ ⊢
  have S3 := S2.newAt (dd := dNs (lk [])) (h₁ := h₂) (fun b o e => hsb₂.extBut b o (Nat.ne_of_lt (Heap.lt_size e)) (Heap.get?_push_of_some _ e)) (At.of_ns hns₂) nc_ns
  generalize h2.objs.size = C at S3 ⊢
  generalize h1.objs.size = D at S3 ⊢
  generalize h.objs.size = it at S3 ⊢
  have loop : ∀ s₃ : Shared, (∃ tk, s₃ = ⟨h₂, g, d, tk, os⟩) →
      codeAny (model Pr w) A (.compLoop (.ListComp elt [⟨.Tuple elts x1 tp, iter, ifs, 0⟩] sc pos) 0 (.ref it) (.ref D) (envK sc cl C cn cs L f cd cl₀)) (RR (.ref D) C) s₃ := by
    rintro s₃ ⟨tk, rfl⟩
    refine codeAny_compLoop_testsP (fun k s' => ∃ i h' t' B' l' ys, k + i = xs.length ∧ s' = ⟨h', g, d, t', os⟩ ∧ Ext B B' ∧ St w B' h' ((C, dNs (lk l')) :: (D, dList ys) :: (it, dLIt la i) :: own) ∧ J i ys B') ?_ xs.length
      ⟨0, _, _, B, [], [], rfl, rfl, ExtT.refl _ _, S3, j0⟩
    rintro k s' ⟨i, h', t', B', l', ys, hki, rfl, X, S', j⟩
    have hl' : At h' la (dList xs) := (hla.ext X hT).ext S'.keep hT
    cases hv : xs[i]? with
    | none =>
      have hi : i = xs.length := by have := List.getElem?_eq_none_iff.mp hv; omega
      subst hi
      refine wpAny_pyNext_list_end (items := xs.toArray) ha (S'.mem (.tail (.tail .head))).lit hl'.list (by simpa using hv) fun h₃ x₃ => ?_
      have S4 := S'.perm (List.perm_middle (l₁ := [_, _]))
      exact done ys B' l' D C h₃ t' j X (S4.lose x₃)
    | some v =>
      have hlt : i < xs.length := (List.getElem?_eq_some_iff.mp hv).1
      refine wpAny_pyNext_list_item (items := xs.toArray) (S'.mem (.tail (.tail .head))).lit hl'.list (by simpa using hv) fun h₃ i₃ x₃ => ?_
      have S4 := S'.upd (dd' := dLIt la (i + 1)) (.tail (.tail .head)) nc_lit x₃ i₃
      obtain ⟨T0, rfl⟩ := hr i v hv
      refine wpAny_letOwnedTupleGo_listiter (s := ⟨h₃, g, d, t', os⟩) (S4.mem (.tail (.tail .head))).lit ?_
      refine wpAny_mono (turn i _ ys B' l' D C it h₃ t' _ hv j X S4) (fun _ s₄ z => ?_) fun _ _ e => e
      refine wpAny_mono z (fun ok s₅ z => ?_) fun _ _ e => e
      cases ok with
      | false =>
        obtain ⟨h5, t5, B5, l5, rfl, X5, S5, j5⟩ := z
        exact ⟨k - 1, by omega, i + 1, h5, t5, B5, l5, ys, by omega, rfl, X.trans X5, S5, j5⟩
      | true =>
        refine wpAny_mono z (fun y s₆ z => ?_) fun _ _ e => e
        obtain ⟨h5, t5, B5, l5, rfl, X5, S5, hz, j5⟩ := z
        refine o_append S5 (.tail .head) hz fun h6 S6 => ?_
        exact ⟨k - 1, by omega, i + 1, h6, t5, B5, l5, _, by omega, rfl, X.trans X5, S6, j5⟩
  refine codeAny_compStart_list (loop _ ⟨_, rfl⟩) (wpAny_pyIter_listiter (S3.mem (.tail (.tail .head))).lit (loop _ ⟨_, rfl⟩))
end

section
variable {w : World} {A : Around} {E : Value → Shared → Prop} {B h : Heap} {g : Array GenState} {d : Drawn} {t : Nat} {os : OsState} {own own' : Led} {a L la it : Addr} {xs : List Value} {n u : Nat}
variable {cn : Str} {cs sc : Scope} {cd : Value} {cl cl₀ : List (Str × Addr)} {f : Addr}
theorem o_maxL {vs : List Value} {ns : List Int} {Q : Value → Shared → Prop} (hh : A.handled = none) (S : St w B h own) (hl : h.IsList la vs.toArray) (hi : IntsAre vs ns) (hne : 0 < ns.length)
    (q : ∀ h' t' M tk, St w B h' own → M ∈ ns → (∀ a, a ∈ ns → a ≤ M) → Q (.int M tk) ⟨h', g, d, t', os⟩) : wpM w A (call (.builtin "max") [.ref la] []) Q E ⟨h, g, d, t, os⟩ := by
  obtain ⟨xs, e⟩ := hi.allInts.items
  have hns : ns = xs.toList.map (·.1) := by
    rw [← hi.numsOf, ← nums_intItems, ← e]
  have hsz : 0 < xs.size := by
    have h3 := hne; rw [hns, List.length_map, Array.length_toList] at h3; exact h3
  rw [e] at hl
  refine max_intList hh hl hsz fun v h' tk hv hk => ?_
  obtain ⟨t, rfl⟩ := intItems_at hv
  obtain ⟨h1, h2⟩ := argBest_gt (numAt xs) (xs.size - 1)
  refine q _ tk _ t (S.keeps hk) ?_ fun a ha => ?_
  · rw [hns, numAt_eq]; exact getD_mem (by rw [List.length_map, Array.length_toList]; omega)
  · rw [hns] at ha
    obtain ⟨j, hj, rfl⟩ := mem_getD ha
    rw [List.length_map, Array.length_toList] at hj
    rw [← numAt_eq]; exact h2 j (by omega)
/-- [elt for a, b in xs if test], the value -/
theorem r_ListComp {elt iter : Expr} {elts : List Expr} {x1 : Nat} {tp pos : Pos} {ifs : List Expr} {Q : Value → Shared → Prop} (J : Nat → List Value → Heap → Prop) (ha : A.handled = none) (S : St w B h own) (hla : At B la (dList xs)) (hT : la ∉ Tb) (hr : ∀ (i : Nat) v, xs[i]? = some v → ∃ T, v = .ref T) (j0 : J 0 [] B)
    (hiter : ∀ Q' : Value → Shared → Prop, Q' (.ref la) ⟨h, g, d, t, os⟩ → wpM w A (eval iter (envX cn cs L f cd cl₀)) Q' E ⟨h, g, d, t, os⟩)
    (turn : ∀ i v ys B' l' D C it h' t' E', xs[i]? = some v → J i ys B' → Ext B B' → St w B' h' ((C, dNs (lk l')) :: (D, dList ys) :: (it, dLIt la (i + 1)) :: own) →
      wpM w A (assign (.Tuple elts x1 tp) (envK sc cl C cn cs L f cd cl₀) v) (fun _ s₂ =>
        wpM w A (forIn ifs true fun c r => if r = true then do let ok ← isTrue c (envK sc cl C cn cs L f cd cl₀) (eval c (envK sc cl C cn cs L f cd cl₀)); pure (ForInStep.yield ok) else pure (ForInStep.yield r)) (fun ok s₃ =>
          if ok = true then wpM w A (eval elt (envK sc cl C cn cs L f cd cl₀)) (fun y s₄ => ∃ h'' t'' B'' l'', s₄ = ⟨h'', g, d, t'', os⟩ ∧ Ext B' B'' ∧ St w B'' h'' ((C, dNs (lk l'')) :: (D, dList ys) :: (it, dLIt la (i + 1)) :: own) ∧ ys.length ≤ sizeLine ∧ J (i + 1) (ys ++ [y]) B'') E' s₃
          else ∃ h'' t'' B'' l'', s₃ = ⟨h'', g, d, t'', os⟩ ∧ Ext B' B'' ∧ St w B'' h'' ((C, dNs (lk l'')) :: (D, dList ys) :: (it, dLIt la (i + 1)) :: own) ∧ J (i + 1) ys B'') E' s₂) E' ⟨h', g, d, t', os⟩)
    (done : ∀ ys B' D h' t', J xs.length ys B' → Ext B B' → St w B' h' ((D, dList ys) :: own) → Q (.ref D) ⟨h', g, d, t', os⟩)
    (hclos : closureFor sc (envX cn cs L f cd cl₀) = pure cl) (hs : ∀ x, foldedSetIterable iter (envX cn cs L f cd cl₀) x = pure x) (hcell : (sc.names.all fun y => y.2 != .cell) = true) (hkind : sc.kind = .function)
    (hnames : (sc.names.all fun y => y.2 != .local || decide (sc.names.lookup y.1 = some .local)) = true) :
    wpM w A (eval (.ListComp elt [⟨.Tuple elts x1 tp, iter, ifs, 0⟩] sc pos) (envX cn cs L f cd cl₀)) Q E ⟨h, g, d, t, os⟩ := by
  rw [eval_ListComp]
  refine wpAny_comprehension_free (use := none) rfl hs hclos hkind (fun y hy hl => ?_) (hiter _ ?_)
  · have := List.all_eq_true.mp hnames y hy
    simpa [hl] using this
  · refine comp_core (RR := fun acc C => compPost (model Pr w) A E none Q acc C) J ha S hla hT hr j0 turn (fun ys B' l' D C h' t' j X S' => ?_) (fun y hy => ?_) hkind
    · exact ⟨_, (S'.mem .head).ns, fun h'' hs'' => done ys B' D h'' t' j X (S'.lose hs''.extBut)⟩
    · have := List.all_eq_true.mp hcell y hy
      simpa using this
/-- x = [elt for a, b in xs if test] -/
theorem r_AssignComp {elt iter : Expr} {elts : List Expr} {x1 : Nat} {tp pos spos py : Pos} {ifs : List Expr} {y : Str} {Q : Flow → Shared → Prop} (J : Nat → List Value → Heap → Prop) (ha : A.handled = none) (S : St w B h own) (hla : At B la (dList xs)) (hT : la ∉ Tb) (hr : ∀ (i : Nat) v, xs[i]? = some v → ∃ T, v = .ref T) (j0 : J 0 [] B)
    (hiter : ∀ Q' : Value → Shared → Prop, Q' (.ref la) ⟨h, g, d, t, os⟩ → wpM w A (eval iter (envX cn cs L f cd cl₀)) Q' E ⟨h, g, d, t, os⟩)
    (turn : ∀ i v ys B' l' D C it h' t' E', xs[i]? = some v → J i ys B' → Ext B B' → St w B' h' ((C, dNs (lk l')) :: (D, dList ys) :: (it, dLIt la (i + 1)) :: own) →
      wpM w A (assign (.Tuple elts x1 tp) (envK sc cl C cn cs L f cd cl₀) v) (fun _ s₂ =>
        wpM w A (forIn ifs true fun c r => if r = true then do let ok ← isTrue c (envK sc cl C cn cs L f cd cl₀) (eval c (envK sc cl C cn cs L f cd cl₀)); pure (ForInStep.yield ok) else pure (ForInStep.yield r)) (fun ok s₃ =>
          if ok = true then wpM w A (eval elt (envK sc cl C cn cs L f cd cl₀)) (fun y s₄ => ∃ h'' t'' B'' l'', s₄ = ⟨h'', g, d, t'', os⟩ ∧ Ext B' B'' ∧ St w B'' h'' ((C, dNs (lk l'')) :: (D, dList ys) :: (it, dLIt la (i + 1)) :: own) ∧ ys.length ≤ sizeLine ∧ J (i + 1) (ys ++ [y]) B'') E' s₃
          else ∃ h'' t'' B'' l'', s₃ = ⟨h'', g, d, t'', os⟩ ∧ Ext B' B'' ∧ St w B'' h'' ((C, dNs (lk l'')) :: (D, dList ys) :: (it, dLIt la (i + 1)) :: own) ∧ J (i + 1) ys B'') E' s₂) E' ⟨h', g, d, t', os⟩)
    (l : List (Str × Value)) (ow : Addr → Led) (hu : ∀ D, LUp L (dNs (lk l)) (dNs (lk (setL y (.ref D) l))) own (ow D))
    (done : ∀ ys B' D h' t', J xs.length ys B' → Ext B B' → St w B' h' ((D, dList ys) :: ow D) → Q .next ⟨h', g, d, t', os⟩)
    (hsw : swapsWith (.ListComp elt [⟨.Tuple elts x1 tp, iter, ifs, 0⟩] sc pos) (some (.Name y py)) spos.line (envX cn cs L f cd cl₀) = pure true)
    (hclos : closureFor sc (envX cn cs L f cd cl₀) = pure cl) (hs : ∀ x, foldedSetIterable iter (envX cn cs L f cd cl₀) x = pure x) (hcell : (sc.names.all fun y => y.2 != .cell) = true) (hkind : sc.kind = .function)
    (hnames : (sc.names.all fun y => y.2 != .local || decide (sc.names.lookup y.1 = some .local)) = true) (hk : cs.kind = .function) (hx : (envX cn cs L f cd cl₀).kindOf y = some .local) :
    wpM w A (exec (.Assign [.Name y py] (.ListComp elt [⟨.Tuple elts x1 tp, iter, ifs, 0⟩] sc pos) spos) (envX cn cs L f cd cl₀)) Q E ⟨h, g, d, t, os⟩ := by
  show wpAny _ _ _ _ _ _
  rw [exec_Assign_Name_used _ _ _ _ hsw]
  refine wpAny_bind (wpAny_standAt (wpAny_bind ?_))
  show wpAny _ A (do let _ ← comprehension (.ListComp elt [⟨.Tuple elts x1 tp, iter, ifs, 0⟩] sc pos) sc (envX cn cs L f cd cl₀) _ (newList []) false (eval iter (envX cn cs L f cd cl₀)) (some (assign (.Name y py) (envX cn cs L f cd cl₀)))) _ _ _
  refine wpAny_bind (wpAny_mono (wpAny_comprehension_free (use := some (assign (.Name y py) (envX cn cs L f cd cl₀))) (Q := fun _ s' => Q .next s') rfl hs hclos hkind (fun y hy hl => ?_) (hiter _ ?_)) (fun _ s' hq => wpAny_pure (wpAny_pure hq)) fun _ _ e => e)
  · have := List.all_eq_true.mp hnames y hy
    simpa [hl] using this
  · refine comp_core (RR := fun acc C => compPost (model Pr w) A E (some (assign (.Name y py) (envX cn cs L f cd cl₀))) (fun _ s' => Q .next s') acc C) J ha S hla hT hr j0 turn (fun ys B' l' D C h' t' j X S' => ?_) (fun y hy => ?_) hkind
    · show wpAny _ A (assign (.Name y py) (envX cn cs L f cd cl₀) (.ref D)) _ _ _
      refine wpAny_assign_Name (r_store S' (.tail (.tail (hu D))) (fun h'' t'' S'' => ?_) hk hx)
      exact ⟨_, (S''.mem .head).ns, fun h3 hs3 => done ys B' D h3 t'' j X (S''.lose hs3.extBut)⟩
    · have := List.all_eq_true.mp hcell y hy
      simpa using this
/-- parts of the ledger that will not change go into the base -/
theorem St.frz {new : Led} (S : St w B h own) (p : own.Perm (new ++ own')) : ∃ B', Ext B B' ∧ (∀ p ∈ new, At B' p.1 p.2 ∧ p.1 ∉ Tb) ∧ St w B' h own' := by
  have S1 := S.perm p
  obtain ⟨B', e1, e2, e3, _⟩ := S1.freeze
  exact ⟨B', e1, fun p hp => ⟨e2 p hp, (S1.nw p (List.mem_append_left _ hp)).2.2.1⟩, e3⟩
/-- for target in a list that stands -/
theorem for_gen {target iter : Expr} {body : List Stmt} {env : Env} {pos : Pos} {Q : Flow → Shared → Prop}
    (J : Nat → Heap → Led → Prop) (a : AOk A n u) (S : St w B h own) (hla : At B la (dList xs)) (hT : la ∉ Tb) (j0 : J 0 B own)
    (hiter : ∀ Q' : Value → Shared → Prop, Q' (.ref la) ⟨h, g, d, t, os⟩ → wpM w A (eval iter env) Q' E ⟨h, g, d, t, os⟩)
    (turn : ∀ i v B' rest' it h' t' E' (Post : Flow → Shared → Prop), xs[i]? = some v → J i B' rest' → Ext B B' → St w B' h' ((it, dLIt la (i + 1)) :: rest') →
      (∀ fl h'' t'' B'' rest'', fl = .next ∨ fl = .cont → Ext B' B'' → St w B'' h'' ((it, dLIt la (i + 1)) :: rest'') → J (i + 1) B'' rest'' → Post fl ⟨h'', g, d, t'', os⟩) → (∀ s', Q .next s' → Post .brk s') → (∀ v s', Q (.ret v) s' → Post (.ret v) s') →
      wpM w A (assign target env v) (fun _ s₁ => wpM w A (execs body env) Post E' s₁) E' ⟨h', g, d, t', os⟩)
    (done : ∀ B' rest' h' t', J xs.length B' rest' → Ext B B' → St w B' h' rest' → Q .next ⟨h', g, d, t', os⟩)
    (hs : ∀ v, foldedSetIterable iter env v = pure v) (ht : ∀ it v, letOwnedTupleGo target it v = pure ()) :
    wpM w A (exec (.For target iter body [] pos) env) Q E ⟨h, g, d, t, os⟩ := by
  refine wpAny_For (hiter _ ?_) hs
  refine wpAny_pyIter_list (S.old hla hT).list ?_
  have S1 : St w B (h.push { cls := .type "list_iterator", data := .fields #[.ref la, .int 0 0] }) ((h.objs.size, dLIt la 0) :: own) := S.alloc (dd := dLIt la 0) ⟨rfl, rfl⟩ nc_lit rfl
  refine codeAny_forLoop (fun k s' => ∃ i h' t' B' rest', k + i = xs.length ∧ s' = ⟨h', g, d, t', os⟩ ∧ Ext B B' ∧ St w B' h' ((h.objs.size, dLIt la i) :: rest') ∧ J i B' rest') ?_ xs.length
    ⟨0, _, _, B, own, rfl, rfl, ExtT.refl _ _, S1, j0⟩ (fun v => ht _ v)
  rintro k s' ⟨i, h', t', B', rest', hki, rfl, X, S', j⟩
  have hl' : At h' la (dList xs) := (hla.ext X hT).ext S'.keep hT
  cases hv : xs[i]? with
  | none =>
    have hi : i = xs.length := by have := List.getElem?_eq_none_iff.mp hv; omega
    subst hi
    refine wpAny_pyNext_list_end (items := xs.toArray) a.hd (S'.mem .head).lit hl'.list (by simpa using hv) fun h₂ x₂ => wpAny_execs_nil ?_
    exact done B' rest' h₂ t' j X (S'.lose x₂)
  | some v =>
    refine wpAny_pyNext_list_item (items := xs.toArray) (S'.mem .head).lit hl'.list (by simpa using hv) fun h₂ i₂ x₂ => ?_
    have S2 := S'.upd (dd' := dLIt la (i + 1)) .head nc_lit x₂ i₂
    have hlt : i < xs.length := (List.getElem?_eq_some_iff.mp hv).1
    refine turn i v B' rest' _ h₂ t' _ _ hv j X S2 (fun fl h₅ t₅ B₅ r₅ e X₅ S₅ j₅ => ?_) (fun _ z => z) (fun _ _ z => z)
    rcases e with rfl | rfl <;> exact ⟨k - 1, by omega, i + 1, h₅, t₅, B₅, r₅, by omega, rfl, X.trans X₅, S₅, j₅⟩
end
local macro_rules | `(tactic| wtm_at "mine k_un") => `(tactic| first | wtm_at "mine k_store" | wtm_at "mine w_un")

def lamOf : Option Stmt → Arguments × Expr × Scope
  | some (.Assign _ (.Lambda a b s _) _) => (a, b, s)
  | _ => default
noncomputable def lamS : { x // x = lamOf (bd44.1)[1]? } := ⟨_, rfl⟩
abbrev hitQ : Str := "_law_hit.<locals>.<lambda>"
theorem s_hit {w : World} {A : Around} {h : Heap} {v₁ v₂ v₃ : Value} {n u : Nat} (a : AOk A n u) (hn : Nat.blt n recursionLimit = true) (K : KIn w.params h) (T : Tabs h) :
    Does w A (call (.ref 44) [v₁, v₂, v₃] []) h fun r new h' => ∃ f dx sp c1 c2 c' fd ctv, r = .ref f ∧ h'.CodeRec (.ref c') hitQ ∧ c' ∉ Tb ∧
      new = [(dx, dNz 2 (lk [("span", .ref sp), ("count", v₃)])), (sp, dObj (kla_obj "<lambda>" hitQ lamS.1.1 lamS.1.2.1 lamS.1.2.2 [("first", c1), ("behind", c2)] (pmOf w) c' ctv)), (f, dObj { cls := .type "function", dict := some dx, data := .func fd }), (c2, dCell (some v₂)), (c1, dCell (some v₁))] := by
  intro Q E g d t os q
  obtain ⟨pm, hf⟩ := fa44 K
  refine enterC a hn hf K T (ca44 K) (binds := [("first", v₁), ("behind", v₂), ("count", v₃)]) (cls := fun L => [("behind", L + 2), ("first", L + 1)]) (led := fun L => [(L + 2, dCell (some v₂)), (L + 1, dCell (some v₁))]) (l := [("count", v₃)]) rfl (fun _ => rfl) (fun _ => rfl) rfl (fun L h₁ t₁ A' E' a' S => ?_) (fun _ => rfl)
  simp only [List.cons_append, List.nil_append] at S
  refine wpAny_execs_cons (wpAny_Assign_Name ?_)
  refine r_Lambda (sp := sp39) (qual := hitQ) S (cd43 S.kinh) (by decide) rfl rfl rfl rfl (by decide) rfl fun f c0 ctv0 B1 h2 t2 X1 hc0 r0 S => ?_
  iterate 3 wtm_at "mine w2"
  refine r_Lambda (sp := sp39) (qual := hitQ) S (cd43 S.kinh) (by decide) rfl rfl rfl rfl (by decide) rfl fun sp c1 ctv1 B2 h3 t3 X2 hc1 r1 S => ?_
  repeat' wtm_at "mine w2"
  exact backS (X1.trans X2) S q ⟨f, dx, sp, L + 1, L + 2, c1, _, ctv1, rfl, codeRec_ext r1 S.keep hc1, hc1, rfl⟩ (by wtm_at "mine m_sl")

theorem s_span {w : World} {A : Around} {h : Heap} {v₁ v₂ : Value} {sp c1 c2 c' : Addr} {pm ctv : Value} {n u : Nat} (a : AOk A n u) (hn : Nat.blt n recursionLimit = true) (K : KIn w.params h) (T : Tabs h)
    (hf : At h sp (dFun (kla_fn "<lambda>" hitQ lamS.1.1 lamS.1.2.1 lamS.1.2.2 [("first", c1), ("behind", c2)] pm (.ref c') ctv))) (hc : h.CodeRec (.ref c') hitQ) (h1 : At h c1 (dCell (some v₁))) (h2 : At h c2 (dCell (some v₂))) (n1 : c1 ∉ Tb) (n2 : c2 ∉ Tb) :
    Does w A (call (.ref sp) [] []) h fun r new _ => ∃ T, r = .ref T ∧ new = [(T, dTup [v₁, v₂])] := by
  intro Q E g d t os q
  refine enterL (l := []) a hn hf K T hc (binds := []) (BindsTo.of_eq rfl) fun L h₁ t₁ A' E' a' S => ?_
  refine Tuple_ ?_
  repeat' wtm_at "mine w2"
  exact backS (ExtT.refl _ _) S q ⟨_, rfl, rfl⟩ (by wtm_at "mine m_sl")
/-- the program's object -/
noncomputable def seS : { x // x = nestOf (bd51.1)[0]? } := ⟨_, rfl⟩
abbrev seQ : Str := "_law_program.<locals>.search"
theorem s_program {w : World} {A : Around} {h : Heap} {n u : Nat} (a : AOk A n u) (hn : Nat.blt n recursionLimit = true) (K : KIn w.params h) (T : Tabs h) :
    Does w A (call (.ref 51) [] []) h fun r new h' => ∃ p dx se T c' fd doc ctv tk, r = .ref p ∧ h'.CodeRec (.ref c') seQ ∧ c' ∉ Tb ∧
      new = [(dx, dNz 1 (lk [("search", .ref se)])), (p, dObj { cls := .type "function", dict := some dx, data := .func fd }), (se, dObj (kdv_obj "search" seQ seS.1.1 (.stmts seS.1.2.1) seS.1.2.2 [] (.ref T) doc (pmOf w) c' ctv)), (T, dTup [.int (-100) tk])] := by
  intro Q E g d t os q
  obtain ⟨pm, hf⟩ := fa51 K
  refine enter a hn hf K T (ca51 K) (binds := []) (l := []) (BindsTo.of_eq rfl) fun L h₁ t₁ A' E' a' S => ?_
  refine wpAny_execs_cons ?_
  refine r_FunctionDefD (sp := sp46) (qual := seQ) (clos := []) cd50 (by decide) rfl rfl rfl rfl (by decide) rfl rfl rfl ?_
  refine kdv_all1 ?_
  repeat' wtm_at "mine w2"
  refine kdv_all0 ?_
  refine ⟨_, _, _, _, rfl, S, rfl, Nat.le_of_ble_eq_true rfl, fun se T c' ctv doc B1 h2 t2 X1 hc1 r1 S => ?_⟩
  iterate 3 wtm_at "mine w2"
  refine r_Lambda (sp := sp46) (qual := "_law_program.<locals>.<lambda>") S (cd50 S.kinh) (by decide) rfl rfl rfl rfl (by decide) rfl fun p c2 ctv2 B2 h3 t3 X2 hc2 r2 S => ?_
  repeat' wtm_at "mine w2"
  exact backS (X1.trans X2) S q ⟨p, dx, se, T, c', _, doc, ctv, _, rfl, codeRec_ext (codeRec_ext r1 X2 hc1) S.keep hc1, hc1, rfl⟩ (by wtm_at "mine m_sl")

abbrev K3 := Int × Int × Int
def hitC (hour : Int) (k : K3) : Bool := decide (k.2.1 > hour) || (decide (k.1 = hour) && decide (k.2.1 = hour))
def hitOf (ks : List K3) (hour : Int) : Option Nat := ks.findIdx? (hitC hour)
def HitPost (w : World) (v₁ v₂ v₃ : Value) (r : Value) (new : Led) (h' : Heap) : Prop :=
  ∃ f dx sp c1 c2 c' fd ctv, r = .ref f ∧ h'.CodeRec (.ref c') hitQ ∧ c' ∉ Tb ∧
      new = [(dx, dNz 2 (lk [("span", .ref sp), ("count", v₃)])), (sp, dObj (kla_obj "<lambda>" hitQ lamS.1.1 lamS.1.2.1 lamS.1.2.2 [("first", c1), ("behind", c2)] (pmOf w) c' ctv)), (f, dObj { cls := .type "function", dict := some dx, data := .func fd }), (c2, dCell (some v₂)), (c1, dCell (some v₁))]
def IsSearch (h : Heap) (se : Addr) : Prop := ∃ T c' doc ctv pm tk, se ∉ Tb ∧ T ∉ Tb ∧ c' ∉ Tb ∧ At h se (dFun (kdv_fn "search" seQ seS.1.1 (.stmts seS.1.2.1) seS.1.2.2 [] (.ref T) doc pm (.ref c') ctv)) ∧ At h T (dTup [.int (-100) tk]) ∧ h.CodeRec (.ref c') seQ
def SearchPost (w : World) (ks : List K3) (hour : Int) (r : Value) (new : Led) (h' : Heap) : Prop := match hitOf ks hour with
  | none => r = .none ∧ new = []
  | some i => ∃ k t1 t2 t3, ks[i]? = some k ∧ HitPost w (.int k.1 t1) (.int k.2.1 t2) (.int ((i : Int) + 1) t3) r new h'
theorem searchPost_none {w : World} {ks : List K3} {hour : Int} {h' : Heap} (j : ∀ k ∈ ks, hitC hour k = false) : SearchPost w ks hour .none [] h' := by
  unfold SearchPost hitOf
  rw [List.findIdx?_eq_none_iff.mpr j]
  exact ⟨rfl, rfl⟩
theorem searchPost_some {w : World} {ks : List K3} {hour : Int} {r : Value} {new : Led} {h' : Heap} {i : Nat} {k : K3} {t1 t2 t3 : Tok} (j : ∀ j k, j < i → ks[j]? = some k → hitC hour k = false) (hk : ks[i]? = some k) (hc : hitC hour k = true)
    (p : HitPost w (.int k.1 t1) (.int k.2.1 t2) (.int ((i : Int) + 1) t3) r new h') : SearchPost w ks hour r new h' := by
  unfold SearchPost hitOf
  have : ks.findIdx? (hitC hour) = some i := by
    obtain ⟨hi, e⟩ := List.getElem?_eq_some_iff.mp hk
    rw [List.findIdx?_eq_some_iff_getElem]
    refine ⟨hi, by rw [e]; exact hc, fun m hm => ?_⟩
    have := j m ks[m] hm (by simp [Nat.lt_trans hm hi])
    simp [this]
  rw [this]
  exact ⟨k, t1, t2, t3, hk, p⟩
theorem s_search {w : World} {A : Around} {h : Heap} {se la : Addr} {xs : List Value} {ks : List K3} {hour : Int} {tk : Tok} {args : List Value} {n u : Nat} (a : AOk A n u) (hn : Nat.blt (n + 1) recursionLimit = true) (K : KIn w.params h) (T : Tabs h) (hs : IsSearch h se)
    (hl : At h la (dList xs)) (hT : la ∉ Tb) (hx : Are (IsW h) xs ks) (hz : xs.length ≤ 1000) (hargs : args = [.ref la, .int hour tk] ∨ (args = [.ref la] ∧ hour = -100)) :
    Does w A (call (.ref se) args []) h fun r new h' => SearchPost w ks hour r new h' := by
  intro Q E g d t os q
  obtain ⟨T0, c', doc, ctv, pm, tk0, _, _, _, hf, hT0, hc⟩ := hs
  have hn0 : Nat.blt n recursionLimit = true := by
    have := Nat.le_of_ble_eq_true hn
    exact Nat.ble_eq_true_of_le (by omega)
  have hb : ∃ tk, BindsTo ⟨h, g, d, t, os⟩ (fnX "search" seQ seS.1.1 seS.1.2.1 seS.1.2.2 [] (.ref T0) .none doc pm none (.ref c') ctv) ⟨args, []⟩ [("works", .ref la), ("hour", .int hour tk)] := by
    obtain ⟨o, ho, n0, e⟩ := hT0
    rcases hargs with rfl | ⟨rfl, rfl⟩
    · exact ⟨tk, BindsTo.of_defaults (T := T0) (o := o) (n := n0) rfl ho (by rw [e]) rfl rfl⟩
    · exact ⟨tk0, BindsTo.of_defaults (T := T0) (o := o) (n := n0) rfl ho (by rw [e]) rfl rfl⟩
  obtain ⟨tk, hb⟩ := hb
  refine enter (l := [("hour", .int hour tk), ("works", .ref la)]) a hn0 hf K T hc hb fun L h₁ t₁ A' E' a' S => ?_
  refine wpAny_execs_cons ?_
  refine for_range (B := h) (k := xs.length) (fun i B' l' rest' => lk l' "works" = some (.ref la) ∧ lk l' "hour" = some (.int hour tk) ∧ rest' = [] ∧ ∀ j k, j < i → ks[j]? = some k → hitC hour k = false) a' ?_ ?_ ?_ (by omega)
  · have hz' : xs.length ≤ sizeLine := by rw [sizeLine_eq]; omega
    repeat' wtm_at "mine w3"
    wtm_at "mine w_bi"
    repeat' wtm_at "mine w3"
    wtm_at "mine w_bi"
    refine ⟨_, _, _, _, _, rfl, rfl, S.mem .head, S.sub (own' := [_]) (fun p hp => .tail _ hp) (by simp), rfl, rfl, rfl, fun j k hj => absurd hj (Nat.not_lt_zero _)⟩
  · rintro i tk1 B' l' rest' it h' t' E'' Post hi ⟨j1, j2, rfl, j3⟩ X S pn _ pr
    obtain ⟨v, hv⟩ : ∃ v, xs[i]? = some v := ⟨_, List.getElem?_eq_getElem hi⟩
    obtain ⟨k, hk, W₁⟩ := hx.get hv
    obtain ⟨a₁, t11, t12, t13, rfl, n₁, D₁⟩ := W₁.ext X
    have hl' := hl.ext X hT
    refine wpAny_execs_cons ?_
    wtm_at "mine w_at"
    iterate 3 wtm_at "mine w3"
    refine item_lst (S.old hl' hT) (by omega) (by omega) (x := .ref a₁) (by simpa using hv) ?_
    refine o_unpack a'.hd S (S.old D₁ n₁) rfl rfl fun h2 S => ?_
    repeat' wtm_at "mine w_un"
    repeat' wtm_at "mine w3"
    all_goals first
      | (refine ⟨let ⟨_, hf⟩ := fa44 S.kinh; ⟨_, hf⟩, s_hit a' hn S.kinh S.tb _ _ _ _ _ _ fun v new h'' t'' X2 T2 N2 D2 P2 => ?_⟩
         exact pr _ _ (backS X (S.call X2 T2 N2 D2) q (searchPost_some j3 hk (by simp_all [hitC]) P2) (List.sublist_append_left _ _)))
      | (refine pn _ _ _ B' _ [] (.inl rfl) (ExtT.refl _ _) S ⟨by wtm_at "mine w_lk", by wtm_at "mine w_lk", rfl, fun j k' hj hk' => ?_⟩
         rcases Nat.lt_succ_iff_lt_or_eq.mp hj with hj | rfl
         · exact j3 j k' hj hk'
         · rw [hk] at hk'; cases hk'; simp_all [hitC])
  · rintro B' l' rest' h' t' ⟨j1, j2, rfl, j3⟩ X S
    repeat' wtm_at "mine w3"
    refine backS (new := []) X S q (searchPost_none fun k hk => ?_) (List.nil_sublist _)
    obtain ⟨j, hj, rfl⟩ := List.getElem_of_mem hk
    exact j3 j _ (by rw [hx.length]; exact hj) (by simp [hj])

theorem IsSearch.ext {h h' : Heap} {se : Addr} (x : IsSearch h se) (k : Ext h h') : IsSearch h' se :=
  let ⟨T, c, doc, ctv, pm, tk, n1, n2, n3, a, b, r⟩ := x; ⟨T, c, doc, ctv, pm, tk, n1, n2, n3, a.ext k n1, b.ext k n2, codeRec_ext r k n3⟩
def IsProg (h : Heap) (p : Addr) : Prop := ∃ dx fd se, p ∉ Tb ∧ dx ∉ Tb ∧ At h p (dObj { cls := .type "function", dict := some dx, data := .func fd }) ∧ At h dx (dNz 1 (lk [("search", .ref se)])) ∧ IsSearch h se
theorem IsProg.ext {h h' : Heap} {p : Addr} (x : IsProg h p) (k : Ext h h') : IsProg h' p :=
  let ⟨dx, fd, se, n1, n2, a, b, r⟩ := x; ⟨dx, fd, se, n1, n2, a.ext k n1, b.ext k n2, r.ext k⟩
theorem HitPost.ext {w : World} {h h' : Heap} {v₁ v₂ v₃ r : Value} {new : Led} (x : HitPost w v₁ v₂ v₃ r new h) (k : Ext h h') : HitPost w v₁ v₂ v₃ r new h' :=
  let ⟨f, dx, sp, c1, c2, c', fd, ctv, e, r, n, q⟩ := x; ⟨f, dx, sp, c1, c2, c', fd, ctv, e, codeRec_ext r k n, n, q⟩
theorem HitPost.learn {w : World} {B h : Heap} {v₁ v₂ v₃ r : Value} {new own : Led} (S : St w B h own) (x : HitPost w v₁ v₂ v₃ r new h) : ∃ B', Ext B B' ∧ HitPost w v₁ v₂ v₃ r new B' ∧ St w B' h own := by
  obtain ⟨f, dx, sp, c1, c2, c', fd, ctv, e, r, n, q⟩ := x
  obtain ⟨B', X, r', S'⟩ := S.learn r n
  exact ⟨B', X, ⟨f, dx, sp, c1, c2, c', fd, ctv, e, r', n, q⟩, S'⟩
/-- works in the order of their ends, no two together, none an hour behind one of no time -/
def Good (ks : List K3) : Prop := ks.Pairwise (fun k k' => k.2.1 < k'.2.1 ∧ (k.1 = k.2.1 → k.2.1 + 1 < k'.2.1)) ∧ ∀ k ∈ ks, k.1 ≤ k.2.1 ∧ -100 < k.2.1
theorem Good.take {ks : List K3} (g : Good ks) (n : Nat) : Good (ks.take n) := ⟨g.1.sublist (List.take_sublist _ _), fun k hk => g.2 k (List.mem_of_mem_take hk)⟩
def hourOf (k : K3) : Int := if k.1 = k.2.1 then k.2.1 + 1 else k.2.1
theorem Good.lt {ks : List K3} (g : Good ks) {i j : Nat} {k k' : K3} (hij : i < j) (hi : ks[i]? = some k) (hj : ks[j]? = some k') : k.2.1 < k'.2.1 ∧ (k.1 = k.2.1 → k.2.1 + 1 < k'.2.1) := by
  obtain ⟨li, rfl⟩ := List.getElem?_eq_some_iff.mp hi
  obtain ⟨lj, rfl⟩ := List.getElem?_eq_some_iff.mp hj
  exact List.pairwise_iff_getElem.mp g.1 i j li lj hij
theorem Good.first {ks : List K3} (g : Good ks) : hitOf ks (-100) = if 0 < ks.length then some 0 else none := by
  cases ks with
  | nil => rfl
  | cons k r =>
    have := (g.2 k (.head _)).2
    unfold hitOf
    rw [List.findIdx?_cons]
    have hc : hitC (-100) k = true := by unfold hitC; rw [Bool.or_eq_true]; exact .inl (by simp; omega)
    rw [hc]; simp
theorem Good.next {ks : List K3} (g : Good ks) {m : Nat} {k : K3} (hm : ks[m]? = some k) : hitOf ks (hourOf k) = if m + 1 < ks.length then some (m + 1) else none := by
  have no : ∀ j k', j ≤ m → ks[j]? = some k' → hitC (hourOf k) k' = false := by
    intro j k' hj hk'
    have hb := (g.2 k' (List.mem_of_getElem? hk')).1
    rcases Nat.lt_or_eq_of_le hj with hj | rfl
    · have := (g.lt hj hk' hm).1
      unfold hitC hourOf
      split <;> simp <;> omega
    · rw [hm] at hk'; cases hk'
      unfold hitC hourOf
      split <;> simp <;> omega
  unfold hitOf
  split
  · rename_i hl
    rw [List.findIdx?_eq_some_iff_getElem]
    refine ⟨hl, ?_, fun j hj => ?_⟩
    · have := g.lt (Nat.lt_succ_self m) hm (List.getElem?_eq_getElem hl)
      unfold hitC hourOf
      rw [Bool.or_eq_true]
      refine .inl ?_
      split <;> simp <;> omega
    · have hjl : j < ks.length := Nat.lt_trans hj hl
      have := no j ks[j] (Nat.le_of_lt_succ hj) (List.getElem?_eq_getElem hjl)
      simp [this]
  · rename_i hl
    rw [List.findIdx?_eq_none_iff]
    intro k' hk'
    obtain ⟨j, hj, rfl⟩ := List.getElem_of_mem hk'
    exact no j _ (by omega) (List.getElem?_eq_getElem hj)
def condC (col : Int) (k : K3) : Bool := decide (k.1 < col) && decide (k.2.1 ≤ col)
def rvn (ks : List K3) (col : Int) : Nat := (ks.takeWhile (condC col)).length
theorem rvn_all {ks : List K3} {col : Int} (h : ∀ k ∈ ks, condC col k = true) : rvn ks col = ks.length := by
  unfold rvn
  have : ks.takeWhile (condC col) = ks := by
    induction ks with
    | nil => rfl
    | cons k r ih => rw [List.takeWhile_cons_of_pos (h k (.head _)), ih fun x hx => h x (.tail _ hx)]
  rw [this]
theorem rvn_at {ks : List K3} {col : Int} : ∀ {i : Nat} {k : K3}, (∀ j k', j < i → ks[j]? = some k' → condC col k' = true) → ks[i]? = some k → condC col k = false → rvn ks col = i := by
  unfold rvn
  induction ks with
  | nil => intro i k _ h; simp at h
  | cons x r ih =>
    intro i k h hi hc
    cases i with
    | zero => simp at hi; subst hi; rw [List.takeWhile_cons_of_neg (by simp [hc])]; rfl
    | succ i =>
      have hx := h 0 x (Nat.succ_pos _) rfl
      rw [List.takeWhile_cons_of_pos hx, List.length_cons, ih (i := i) (k := k) (fun j k' hj hk' => h (j + 1) k' (Nat.succ_lt_succ hj) (by simpa using hk')) (by simpa using hi) hc]
def FoundAt (w : World) (ks : List K3) (B : Heap) : Nat → Value → Led → Prop
  | 0, r, new => r = .none ∧ new = []
  | c + 1, r, new => ∃ k t1 t2 t3, ks[c]? = some k ∧ HitPost w (.int k.1 t1) (.int k.2.1 t2) (.int ((c : Int) + 1) t3) r new B
theorem FoundAt.ext {w : World} {ks : List K3} {h h' : Heap} {i : Nat} {r : Value} {new : Led} (x : FoundAt w ks h i r new) (k : Ext h h') : FoundAt w ks h' i r new := by
  cases i with
  | zero => exact x
  | succ c => obtain ⟨k', t1, t2, t3, e, p⟩ := x; exact ⟨k', t1, t2, t3, e, p.ext k⟩

/-- between the turns of the while: the hit at hand is work i, all ahead of it met the test -/
def RevJ (w : World) (ks : List K3) (p la : Addr) (col : Int) (tk : Tok) (m : Nat) (B : Heap) (l : List (Str × Value)) (rest : Led) : Prop :=
  ∃ i k mv fv t1 t2 t3 newM newF, i + m = ks.length ∧ ks[i]? = some k ∧ (∀ j k', j < i → ks[j]? = some k' → condC col k' = true) ∧
    lk l "prog" = some (.ref p) ∧ lk l "chars" = some (.ref la) ∧ lk l "col" = some (.int col tk) ∧ lk l "m" = some mv ∧ lk l "found" = some fv ∧ lk l "i" = some (.int k.1 t1) ∧ lk l "j" = some (.int k.2.1 t2) ∧
    HitPost w (.int k.1 t1) (.int k.2.1 t2) (.int ((i : Int) + 1) t3) mv newM B ∧ FoundAt w ks B i fv newF ∧ rest = newM ++ newF
theorem s_rev {w : World} {A : Around} {h : Heap} {p la : Addr} {xs : List Value} {ks : List K3} {col : Int} {tk : Tok} {n u : Nat} (a : AOk A n u) (hn : Nat.blt (n + 2) recursionLimit = true) (K : KIn w.params h) (T : Tabs h) (hp : IsProg h p)
    (hl : At h la (dList xs)) (hT : la ∉ Tb) (hx : Are (IsW h) xs ks) (hz : xs.length ≤ 1000) (hg : Good ks) :
    Does w A (call (.ref 37) [.ref p, .ref la, .int col tk] []) h fun r new h' => FoundAt w ks h' (rvn ks col) r new := by
  intro Q E g d t os q
  have hn1 : Nat.blt (n + 1) recursionLimit = true := Nat.ble_eq_true_of_le (by have := Nat.le_of_ble_eq_true hn; omega)
  have hn0 : Nat.blt n recursionLimit = true := Nat.ble_eq_true_of_le (by have := Nat.le_of_ble_eq_true hn; omega)
  obtain ⟨pm, hf⟩ := fa37 K
  obtain ⟨dx, fd, se, np, ndx, Dp, Ddx, hs⟩ := hp
  have hs' := hs
  obtain ⟨T0, c', doc, ctv, pm', tk0, nse, nT0, nc', Dse, DT0, hcr⟩ := hs'
  refine enter (l := [("col", .int col tk), ("chars", .ref la), ("prog", .ref p)]) a hn0 hf K T (ca37 K) (binds := [("prog", .ref p), ("chars", .ref la), ("col", .int col tk)]) (BindsTo.of_eq rfl) fun L h₁ t₁ A' E' a' S => ?_
  refine wpAny_execs_cons ?_
  repeat' wtm_at "mine w3"
  refine ⟨⟨_, S.old Dse nse⟩, s_search (hour := -100) (tk := 0) a' hn S.kinh S.tb (hs.ext S.keep) (S.old hl hT) hT (hx.mono fun _ _ z => z.ext S.keep) hz (.inr ⟨rfl, rfl⟩) _ _ _ _ _ _ fun v new h2 t2 X2 T2 N2 D2 P2 => ?_⟩
  have S2 := S.call X2 T2 N2 D2
  clear S
  unfold SearchPost at P2
  rw [hg.first] at P2
  cases hk : ks[0]? with
  | none =>
    have hks : ks = [] := by cases ks with | nil => rfl | cons _ _ => simp at hk
    subst hks
    obtain ⟨rfl, rfl⟩ := P2
    have S := S2
    simp only [List.nil_append] at S
    repeat' wtm_at "mine w3"
    exact backS (new := []) (ExtT.refl _ _) S q (by unfold rvn; exact ⟨rfl, rfl⟩) (List.nil_sublist _)
  | some k =>
    have hlen : 0 < ks.length := by cases ks with | nil => simp at hk | cons _ _ => simp
    rw [if_pos hlen] at P2
    obtain ⟨k', t1, t2', t3, hk', P2⟩ := P2
    rw [hk] at hk'; cases hk'
    obtain ⟨B1, X1, P3, S3⟩ := HitPost.learn S2 P2
    obtain ⟨f, dh, sp, c1, c2, ch, fdh, ctvh, rfl, rh, nh, rfl⟩ := P3
    have S := S3
    simp only [List.cons_append, List.nil_append] at S
    repeat' wtm_at "mine w3"
    refine ⟨⟨_, fnAt (S.mem (by wtm_at "mine m_lm"))⟩, s_span a' hn1 S.kinh S.tb (fnAt (S.mem (by wtm_at "mine m_lm"))) (codeRec_ext rh S.keep nh) (S.mem (by wtm_at "mine m_lm")) (S.mem (by wtm_at "mine m_lm")) (S.ntb (fa := c1) (by wtm_at "mine m_lm")) (S.ntb (fa := c2) (by wtm_at "mine m_lm")) _ _ _ _ _ _ fun v new h3 t3' X3 T3 N3 D3 P3 => ?_⟩
    obtain ⟨T4, rfl, rfl⟩ := P3
    have S4 := S.call X3 T3 N3 D3
    clear S
    have S := S4
    simp only [List.cons_append, List.nil_append] at S
    refine o_unpack a'.hd S (S.mem .head) rfl rfl fun h5 S => ?_
    repeat' wtm_at "mine w_un"
    repeat' wtm_at "mine w3"
    refine r_while (B := B1) (k := ks.length) (rest := [_, _, _, _, _]) (RevJ w ks p la col tk) S.tl ?_ ?_
    · exact ⟨0, k, .ref f, .none, t1, t2', t3, _, [], by omega, hk, fun j k' hj => absurd hj (Nat.not_lt_zero _), by wtm_at "mine w_lk", by wtm_at "mine w_lk", by wtm_at "mine w_lk", by wtm_at "mine w_lk", by wtm_at "mine w_lk", by wtm_at "mine w_lk", by wtm_at "mine w_lk", ⟨f, dh, sp, c1, c2, ch, fdh, ctvh, rfl, rh, nh, rfl⟩, ⟨rfl, rfl⟩, rfl⟩
    clear S S4 S3 S2 rh hk
    rintro m B' l' rest' h' t' E'' Post Pe ⟨i, k, mv, fv, t1, t2, t3, newM, newF, hm, hk, hc, e1, e2, e3, e4, e5, e6, e7, PM, PF, rfl⟩ X S pn pb pr pe
    have PM' := PM
    obtain ⟨f, dh, sp, c1, c2, ch, fdh, ctvh, rfl, rh, nh, rfl⟩ := PM'
    simp only [List.cons_append, List.nil_append, List.append_assoc] at S
    have XX := X1.trans X
    have Dp' := Dp.ext XX np
    have Ddx' := Ddx.ext XX ndx
    have Dse' := Dse.ext XX nse
    repeat' wtm_at "mine w3"
    · have hh : hourOf k = k.2.1 + 1 := by simp_all [hourOf]
      have hcond : condC col k = true := by simp_all [condC]
      have hcall : ∀ j k', j < i + 1 → ks[j]? = some k' → condC col k' = true := fun j k' hj hk' => by
        rcases Nat.lt_succ_iff_lt_or_eq.mp hj with hj | rfl
        · exact hc j k' hj hk'
        · rw [hk] at hk'; cases hk'; exact hcond
      refine ⟨⟨_, S.old Dse' nse⟩, s_search (hour := k.2.1 + 1) (tk := _) a' hn S.kinh S.tb ((hs.ext XX).ext S.keep) (S.old (hl.ext XX hT) hT) hT (hx.mono fun _ _ z => (z.ext XX).ext S.keep) hz (.inl rfl) _ _ _ _ _ _ fun v new h2 t2' X2 T2 N2 D2 P2 => ?_⟩
      have S2 := S.call X2 T2 N2 D2
      unfold SearchPost at P2
      rw [← hh, hg.next hk] at P2
      by_cases hlen : i + 1 < ks.length
      · rw [if_pos hlen] at P2
        obtain ⟨k2, ta, tb, tc, hk2, P2⟩ := P2
        obtain ⟨B2, X2', P3, S3⟩ := HitPost.learn S2 P2
        have P3' := P3
        obtain ⟨f2, dh2, sp2, c12, c22, ch2, fdh2, ctvh2, rfl, rh2, nh2, rfl⟩ := P3'
        clear S S2
        have S := S3
        simp only [List.cons_append, List.nil_append] at S
        repeat' wtm_at "mine w3"
        refine ⟨⟨_, fnAt (S.mem (by wtm_at "mine m_lm"))⟩, s_span a' hn1 S.kinh S.tb (fnAt (S.mem (by wtm_at "mine m_lm"))) (codeRec_ext rh2 S.keep nh2) (S.mem (by wtm_at "mine m_lm")) (S.mem (by wtm_at "mine m_lm")) (S.ntb (fa := c12) (by wtm_at "mine m_lm")) (S.ntb (fa := c22) (by wtm_at "mine m_lm")) _ _ _ _ _ _ fun v new h3 t3' X3 T3 N3 D3 P3 => ?_⟩
        obtain ⟨T4, rfl, rfl⟩ := P3
        have S4 := S.call X3 T3 N3 D3
        clear S
        have S := S4
        simp only [List.cons_append, List.nil_append] at S
        refine o_unpack a'.hd S (S.mem .head) rfl rfl fun h5 S => ?_
        repeat' wtm_at "mine w_un"
        repeat' wtm_at "mine w3"
        refine pn _ (m - 1) _ _ B2 _ ([_, _, _, _, _] ++ [_, _, _, _, _]) (.inl rfl) (by omega) X2' (S.tl.sublist (own' := [_, _, _, _, _, _, _, _, _, _, _]) (by wtm_at "mine m_sl")) ⟨i + 1, k2, .ref f2, .ref f, ta, tb, tc, _, _, by omega, by simpa using hk2, hcall, by wtm_at "mine w_lk", by wtm_at "mine w_lk", by wtm_at "mine w_lk", by wtm_at "mine w_lk", by wtm_at "mine w_lk", by wtm_at "mine w_lk", by wtm_at "mine w_lk", P3, ⟨k, _, _, _, hk, PM.ext X2'⟩, rfl⟩
      · rw [if_neg hlen] at P2
        obtain ⟨rfl, rfl⟩ := P2
        clear S
        have S := S2
        simp only [List.cons_append, List.nil_append] at S
        repeat' wtm_at "mine w3"
        refine pb _ ?_
        repeat' wtm_at "mine w3"
        have hr : rvn ks col = i + 1 := by
          rw [rvn_all fun k' hk' => ?_]
          · have := (List.getElem?_eq_some_iff.mp hk).1; omega
          · obtain ⟨j, hj, rfl⟩ := List.getElem_of_mem hk'
            exact hcall j _ (by omega) (List.getElem?_eq_getElem hj)
        have hF := PM.ext S.keep
        exact backS XX S q (show FoundAt w ks _ (rvn ks col) _ _ by rw [hr]; exact ⟨k, _, _, _, hk, hF⟩) (by wtm_at "mine m_sl")
    · have hh : hourOf k = k.2.1 := by simp_all [hourOf]
      have hcond : condC col k = true := by simp_all [condC]
      have hcall : ∀ j k', j < i + 1 → ks[j]? = some k' → condC col k' = true := fun j k' hj hk' => by
        rcases Nat.lt_succ_iff_lt_or_eq.mp hj with hj | rfl
        · exact hc j k' hj hk'
        · rw [hk] at hk'; cases hk'; exact hcond
      refine ⟨⟨_, S.old Dse' nse⟩, s_search (hour := k.2.1) (tk := _) a' hn S.kinh S.tb ((hs.ext XX).ext S.keep) (S.old (hl.ext XX hT) hT) hT (hx.mono fun _ _ z => (z.ext XX).ext S.keep) hz (.inl rfl) _ _ _ _ _ _ fun v new h2 t2' X2 T2 N2 D2 P2 => ?_⟩
      have S2 := S.call X2 T2 N2 D2
      unfold SearchPost at P2
      rw [← hh, hg.next hk] at P2
      by_cases hlen : i + 1 < ks.length
      · rw [if_pos hlen] at P2
        obtain ⟨k2, ta, tb, tc, hk2, P2⟩ := P2
        obtain ⟨B2, X2', P3, S3⟩ := HitPost.learn S2 P2
        have P3' := P3
        obtain ⟨f2, dh2, sp2, c12, c22, ch2, fdh2, ctvh2, rfl, rh2, nh2, rfl⟩ := P3'
        clear S S2
        have S := S3
        simp only [List.cons_append, List.nil_append] at S
        repeat' wtm_at "mine w3"
        refine ⟨⟨_, fnAt (S.mem (by wtm_at "mine m_lm"))⟩, s_span a' hn1 S.kinh S.tb (fnAt (S.mem (by wtm_at "mine m_lm"))) (codeRec_ext rh2 S.keep nh2) (S.mem (by wtm_at "mine m_lm")) (S.mem (by wtm_at "mine m_lm")) (S.ntb (fa := c12) (by wtm_at "mine m_lm")) (S.ntb (fa := c22) (by wtm_at "mine m_lm")) _ _ _ _ _ _ fun v new h3 t3' X3 T3 N3 D3 P3 => ?_⟩
        obtain ⟨T4, rfl, rfl⟩ := P3
        have S4 := S.call X3 T3 N3 D3
        clear S
        have S := S4
        simp only [List.cons_append, List.nil_append] at S
        refine o_unpack a'.hd S (S.mem .head) rfl rfl fun h5 S => ?_
        repeat' wtm_at "mine w_un"
        repeat' wtm_at "mine w3"
        refine pn _ (m - 1) _ _ B2 _ ([_, _, _, _, _] ++ [_, _, _, _, _]) (.inl rfl) (by omega) X2' (S.tl.sublist (own' := [_, _, _, _, _, _, _, _, _, _, _]) (by wtm_at "mine m_sl")) ⟨i + 1, k2, .ref f2, .ref f, ta, tb, tc, _, _, by omega, by simpa using hk2, hcall, by wtm_at "mine w_lk", by wtm_at "mine w_lk", by wtm_at "mine w_lk", by wtm_at "mine w_lk", by wtm_at "mine w_lk", by wtm_at "mine w_lk", by wtm_at "mine w_lk", P3, ⟨k, _, _, _, hk, PM.ext X2'⟩, rfl⟩
      · rw [if_neg hlen] at P2
        obtain ⟨rfl, rfl⟩ := P2
        clear S
        have S := S2
        simp only [List.cons_append, List.nil_append] at S
        repeat' wtm_at "mine w3"
        refine pb _ ?_
        repeat' wtm_at "mine w3"
        have hr : rvn ks col = i + 1 := by
          rw [rvn_all fun k' hk' => ?_]
          · have := (List.getElem?_eq_some_iff.mp hk).1; omega
          · obtain ⟨j, hj, rfl⟩ := List.getElem_of_mem hk'
            exact hcall j _ (by omega) (List.getElem?_eq_getElem hj)
        have hF := PM.ext S.keep
        exact backS XX S q (show FoundAt w ks _ (rvn ks col) _ _ by rw [hr]; exact ⟨k, _, _, _, hk, hF⟩) (by wtm_at "mine m_sl")
    · refine pe _ ?_
      repeat' wtm_at "mine w3"
      refine backS XX S q (?_ : FoundAt w ks _ (rvn ks col) fv newF) (by wtm_at "mine m_sl")
      rw [rvn_at hc hk (by unfold condC; rw [Bool.and_eq_false_iff]; simp only [decide_eq_false_iff_not]; omega)]
      exact PF.ext S.keep
    · refine pe _ ?_
      repeat' wtm_at "mine w3"
      refine backS XX S q (?_ : FoundAt w ks _ (rvn ks col) fv newF) (by wtm_at "mine m_sl")
      rw [rvn_at hc hk (by unfold condC; rw [Bool.and_eq_false_iff]; simp only [decide_eq_false_iff_not]; omega)]
      exact PF.ext S.keep

noncomputable def stS : { x // x = nestOf (bd79.1)[1]? } := ⟨_, rfl⟩
abbrev stQ : Str := "_law_step.<locals>.step"
theorem s_mkstep {w : World} {A : Around} {h : Heap} {v : Value} {n u : Nat} (a : AOk A n u) (hn : Nat.blt (n + 1) recursionLimit = true) (K : KIn w.params h) (T : Tabs h) :
    Does w A (call (.ref 79) [v] []) h fun r new h' => ∃ st c1 c2 c' doc ctv p newP, r = .ref st ∧ h'.CodeRec (.ref c') stQ ∧ c' ∉ Tb ∧
      new = (st, dObj (fnMade "step" stQ stS.1.1 stS.1.2.1 stS.1.2.2 [("works", c1), ("prog", c2)] doc (pmOf w) c' ctv)) :: newP ++ [(c2, dCell (some (.ref p))), (c1, dCell (some v))] ∧ 
      ∃ dx se T c' fd doc ctv tk, h'.CodeRec (.ref c') seQ ∧ c' ∉ Tb ∧
      newP = [(dx, dNz 1 (lk [("search", .ref se)])), (p, dObj { cls := .type "function", dict := some dx, data := .func fd }), (se, dObj (kdv_obj "search" seQ seS.1.1 (.stmts seS.1.2.1) seS.1.2.2 [] (.ref T) doc (pmOf w) c' ctv)), (T, dTup [.int (-100) tk])] := by
  intro Q E g d t os q
  have hn0 : Nat.blt n recursionLimit = true := Nat.ble_eq_true_of_le (by have := Nat.le_of_ble_eq_true hn; omega)
  obtain ⟨pm, hf⟩ := fa79 K
  refine enterC a hn0 hf K T (ca79 K) (binds := [("works", v)]) (cls := fun L => [("prog", L + 2), ("works", L + 1)]) (led := fun L => [(L + 2, dCell none), (L + 1, dCell (some v))]) (l := []) rfl (fun _ => rfl) (fun _ => rfl) rfl (fun L h₁ t₁ A' E' a' S => ?_) (fun _ => rfl)
  simp only [List.cons_append, List.nil_append] at S
  refine wpAny_execs_cons ?_
  repeat' wtm_at "mine w3"
  refine ⟨let ⟨_, hf⟩ := fa51 S.kinh; ⟨_, hf⟩, s_program a' hn S.kinh S.tb _ _ _ _ _ _ fun v new h2 t2 X2 T2 N2 D2 P2 => ?_⟩
  obtain ⟨p, dx, se, T0, c', fd, doc, ctv, tk, rfl, hcr, hcT, rfl⟩ := P2
  have S2 := S.call X2 T2 N2 D2
  obtain ⟨B1, X1, r1, S3⟩ := S2.learn hcr hcT
  clear S S2
  have S := S3
  simp only [List.cons_append, List.nil_append] at S
  repeat' wtm_at "mine w3"
  refine r_FunctionDef (sp := sp74) (qual := stQ) S (cd78 S.kinh) (by decide) rfl rfl rfl rfl (by decide) rfl rfl rfl fun st c2 ctv2 doc2 B2 h3 t3 X3 hc3 r3 S => ?_
  repeat' wtm_at "mine w3"
  exact backS (X1.trans X3) S q ⟨st, L + 1, L + 2, c2, doc2, ctv2, p, _, rfl, codeRec_ext r3 S.keep hc3, hc3, rfl, dx, se, T0, c', fd, doc, ctv, tk, codeRec_ext (codeRec_ext r1 X3 hcT) S.keep hcT, hcT, rfl⟩ (by simp only [List.cons_append, List.nil_append]; wtm_at "mine m_sl")
/-- the step's object -/
def IsStep (h : Heap) (st la : Addr) : Prop := ∃ c1 c2 p c' doc ctv pm, st ∉ Tb ∧ c1 ∉ Tb ∧ c2 ∉ Tb ∧ c' ∉ Tb ∧ p ∉ Tb ∧ h.CodeRec (.ref c') stQ ∧
  At h st (dFun (fnX "step" stQ stS.1.1 stS.1.2.1 stS.1.2.2 [("works", c1), ("prog", c2)] .none .none doc pm none (.ref c') ctv)) ∧ At h c1 (dCell (some (.ref la))) ∧ At h c2 (dCell (some (.ref p))) ∧ IsProg h p
theorem IsStep.ext {h h' : Heap} {st la : Addr} (x : IsStep h st la) (k : Ext h h') : IsStep h' st la :=
  let ⟨c1, c2, p, c', doc, ctv, pm, n1, n2, n3, n4, n5, r, a, b, c, d⟩ := x
  ⟨c1, c2, p, c', doc, ctv, pm, n1, n2, n3, n4, n5, codeRec_ext r k n4, a.ext k n1, b.ext k n2, c.ext k n3, d.ext k⟩
theorem ints_get {bs : List Value} {ns : List Int} (h : IntsAre bs ns) : ∀ {i : Nat}, i < ns.length → ∃ t, bs[i]? = some (.int (ns.getD i 0) t) := by
  induction h with
  | nil => intro i hi; simp at hi
  | cons i tk r ih =>
    intro j hj
    cases j with
    | zero => exact ⟨tk, rfl⟩
    | succ j => obtain ⟨t, e⟩ := ih (i := j) (by simpa using hj); exact ⟨t, by simpa using e⟩
theorem rvn_le (ks : List K3) (col : Int) : rvn ks col ≤ ks.length := (List.takeWhile_sublist _).length_le
theorem s_step {w : World} {A : Around} {h : Heap} {st la lb : Addr} {xs bs : List Value} {ks : List K3} {ns : List Int} {v : Value} {b o c : Int} {n u : Nat} (a : AOk A n u) (hn : Nat.blt (n + 3) recursionLimit = true) (K : KIn w.params h) (T : Tabs h)
    (hs : IsStep h st la) (hl : At h la (dList xs)) (hT : la ∉ Tb) (hx : Are (IsW h) xs ks) (hz : xs.length ≤ 1000) (hg : Good ks) (hb : At h lb (dList bs)) (hbT : lb ∉ Tb) (hi : IntsAre bs ns) (hne : 1 ≤ ns.length) (hle : ns.length ≤ ks.length + 1) (W : IsWork h v b o c) :
    Does w A (call (.ref st) [.ref lb, v] []) h fun r new _ => ∃ rl t, r = .ref rl ∧
      new = [(rl, dList (bs ++ [.int (max (ns.getD (ns.length - 1) 0) (ns.getD (rvn (ks.take (ns.length - 1)) b) 0 + c)) t]))] := by
  intro Q E g d t os q
  have hn0 : Nat.blt n recursionLimit = true := Nat.ble_eq_true_of_le (by have := Nat.le_of_ble_eq_true hn; omega)
  obtain ⟨c1, c2, p, c', doc, ctv, pm, n1, n2, n3, n4, n5, hcr, hf, D1, D2, hp⟩ := hs
  obtain ⟨wa, t1, t2, t3, rfl, nw, Dw⟩ := W
  refine enter (l := [("work", .ref wa), ("best", .ref lb)]) a hn0 hf K T hcr (binds := [("best", .ref lb), ("work", .ref wa)]) (BindsTo.of_eq rfl) fun L h₁ t₁ A' E' a' S => ?_
  refine wpAny_execs_cons ?_
  repeat' wtm_at "mine w3"
  have hbl : bs.length = ns.length := hi.length
  have hxl := hx.length
  have hbz : bs.length ≤ sizeLine := by rw [sizeLine_eq, hbl]; have := hx.length; omega
  have hxz : xs.length ≤ sizeLine := by rw [sizeLine_eq]; omega
  wtm_at "mine w_bi"
  repeat' wtm_at "mine w3"
  refine ⟨_, _, _, _, rfl, S, fun _ _ z => (by cases z), fun sl h2 S => ?_⟩
  refine ⟨(S.old hl hT).list.typeIs, ?_⟩
  refine o_slice (lo := none) (hi := some ((ns.length - 1 : Nat) : Int)) (st := none) S (S.old hl hT).list (S.mem .head) .none ?_ .none (by simp) hxz fun wl h3 S => ?_
  · have : ((bs.length : Int) - 1) = ((ns.length - 1 : Nat) : Int) := by omega
    rw [this]; exact .int _ _
  rw [slicePick_upto'] at S
  simp only [List.toList_toArray] at S
  repeat' wtm_at "mine w3"
  refine ⟨let ⟨_, hf⟩ := fa37 S.kinh; ⟨_, hf⟩, s_rev a' hn S.kinh S.tb (hp.ext S.keep) (S.mem .head) (S.ntb (fa := wl) .head) ((hx.take _).mono fun _ _ z => z.ext S.keep) (by rw [List.length_take]; omega) (hg.take _) _ _ _ _ _ _ fun v new h4 t4 X4 T4 N4 D4 P4 => ?_⟩
  have S4 := S.call X4 T4 N4 D4
  clear S
  cases hR : rvn (ks.take (ns.length - 1)) b with
  | zero =>
    rw [hR] at P4
    obtain ⟨rfl, rfl⟩ := P4
    have S := S4
    simp only [List.nil_append] at S
    repeat' wtm_at "mine w3"
    have hpl : 0 < ns.length := by have := rvn_le (ks.take (ns.length - 1)) b; rw [hR, List.length_take] at this; omega
    obtain ⟨ta, ea⟩ := ints_get hi (i := ns.length - 1) (by omega)
    obtain ⟨tb, eb⟩ := ints_get hi hpl
    have hb' := S.old hb hbT
    refine item_lneg hb' (by decide) (by decide) (by omega) (x := .int (ns.getD (ns.length - 1) 0) ta) (by rw [show ((-1 : Int) + bs.length).toNat = ns.length - 1 by omega]; exact ea) ?_
    repeat' wtm_at "mine w3"
    refine item_lst (S.old hb hbT) (by decide) (by decide) (x := .int (ns.getD 0 0) tb) (by first | exact eb | (rw [show (((c : Int) + 1)).toNat = c + 1 by omega]; exact eb)) ?_
    repeat' wtm_at "mine w3"
    wtm_at "mine w_bi"
    repeat' wtm_at "mine w3"
    refine o_addL S (S.old hb hbT) (S.mem .head) (fun rl h9 S => ?_) (by rw [sizeLine_eq, hbl]; have := hx.length; simp; omega)
    exact backS (ExtT.refl _ _) S q ⟨rl, _, rfl, by rw [hR]⟩ (by wtm_at "mine m_sl")
  | succ cc =>
    rw [hR] at P4
    obtain ⟨k, ta, tb, tc, hk, f, dh, sp, c1', c2', ch, fdh, ctvh, rfl, rh, nh, rfl⟩ := P4
    have S := S4
    simp only [List.cons_append, List.nil_append] at S
    repeat' wtm_at "mine w3"
    have hpl : (cc + 1) < ns.length := by have := rvn_le (ks.take (ns.length - 1)) b; rw [hR, List.length_take] at this; omega
    obtain ⟨ta, ea⟩ := ints_get hi (i := ns.length - 1) (by omega)
    obtain ⟨tb, eb⟩ := ints_get hi hpl
    have hb' := S.old hb hbT
    refine item_lneg hb' (by decide) (by decide) (by omega) (x := .int (ns.getD (ns.length - 1) 0) ta) (by rw [show ((-1 : Int) + bs.length).toNat = ns.length - 1 by omega]; exact ea) ?_
    repeat' wtm_at "mine w3"
    refine item_lst (S.old hb hbT) (by omega) (by omega) (x := .int (ns.getD (cc + 1) 0) tb) (by first | exact eb | (rw [show (((cc : Int) + 1)).toNat = cc + 1 by omega]; exact eb)) ?_
    repeat' wtm_at "mine w3"
    wtm_at "mine w_bi"
    repeat' wtm_at "mine w3"
    refine o_addL S (S.old hb hbT) (S.mem .head) (fun rl h9 S => ?_) (by rw [sizeLine_eq, hbl]; have := hx.length; simp; omega)
    exact backS (ExtT.refl _ _) S q ⟨rl, _, rfl, by rw [hR]⟩ (by wtm_at "mine m_sl")

theorem k22 {P : Params} {h : Heap} (K : KIn P h) : ∃ o, h.get? 22 = some o ∧ o.cls ≠ .type "list" := ⟨_, K 22 _ rfl (by decide), fun e => absurd ((show Value.type "object" = (zo22 P).cls by kernel_rfl).trans e) (by decide)⟩
theorem k23 {P : Params} {h : Heap} (K : KIn P h) : At h 23 (dTup [.ref 22]) := ⟨_, K 23 _ rfl (by decide), 0, by kernel_rfl⟩
/-- what a reduce asks of its function -/
def RStep (w : World) (h : Heap) (fa : Addr) (xs : List Value) (n : Nat) (J : Nat → Value → Led → Prop) : Prop :=
  ∀ (A : Around) (h' : Heap) (i : Nat) (v x : Value) (new : Led) (u : Nat), AOk A n u → Ext h h' → Tabs h' → (∀ p ∈ new, At h' p.1 p.2 ∧ p.1 ∉ Tb) → J i v new → xs[i]? = some x →
    (∃ fd, At h' fa (dFun fd)) ∧ Does w A (call (.ref fa) [v, x] []) h' fun r new' _ => J (i + 1) r new'
theorem s_reduce {w : World} {A : Around} {h : Heap} {fa la : Addr} {xs : List Value} {args : List Value} {i₀ : Nat} {v₀ : Value} {n u : Nat} (J : Nat → Value → Led → Prop) (a : AOk A n u) (hn : Nat.blt (n + 1) recursionLimit = true) (K : KIn w.params h) (T : Tabs h)
    (hl : At h la (dList xs)) (hT : la ∉ Tb) (hargs : (args = [.ref fa, .ref la, v₀] ∧ i₀ = 0 ∧ ∃ a₀ ys, v₀ = .ref a₀ ∧ At h a₀ (dList ys) ∧ a₀ ∉ Tb) ∨ (args = [.ref fa, .ref la] ∧ i₀ = 1 ∧ xs[0]? = some v₀))
    (j0 : J i₀ v₀ []) (st : RStep w h fa xs (n + 1) J) :
    Does w A (call (.ref 30) args []) h fun r new _ => J xs.length r new := by
  intro Q E g d t os q
  have hn0 : Nat.blt n recursionLimit = true := Nat.ble_eq_true_of_le (by have := Nat.le_of_ble_eq_true hn; omega)
  obtain ⟨pm, hf⟩ := fa30 K
  have hb : BindsTo ⟨h, g, d, t, os⟩ (fnX "reduce" "reduce" ag30.1 bd30.1 sc30.1 [] (.ref 23) .none .none pm none (.ref 29) .none) ⟨args, []⟩ [("function", .ref fa), ("sequence", .ref la), ("initial", if i₀ = 0 then v₀ else .ref 22)] := by
    obtain ⟨o, ho, n0, e⟩ := k23 K
    rcases hargs with ⟨rfl, rfl, _⟩ | ⟨rfl, rfl, _⟩
    · exact BindsTo.of_defaults (T := 23) (o := o) (n := n0) rfl ho (by rw [e]) rfl rfl
    · exact BindsTo.of_defaults (T := 23) (o := o) (n := n0) rfl ho (by rw [e]) rfl rfl
  refine enter (l := [("initial", if i₀ = 0 then v₀ else .ref 22), ("sequence", .ref la), ("function", .ref fa)]) a hn0 hf K T (ca30 K) hb fun L h₁ t₁ A' E' a' S => ?_
  refine wpAny_execs_cons ?_
  repeat' wtm_at "mine w3"
  refine o_iter S (S.old hl hT) fun it h2 S => ?_
  repeat' wtm_at "mine w3"
  have loop : ∀ (h3 : Heap) (t3 : Nat) (l : List (Str × Value)), St w h h3 [(L, dNs (lk l)), (it, dLIt la i₀)] → lk l "it" = some (.ref it) → lk l "function" = some (.ref fa) → lk l "value" = some v₀ → i₀ ≤ xs.length →
      match bd30.1.drop 2 with
      | s :: r => wpM w A' (exec s (envX "reduce" sc30.1 L 30 (.ref 29) [])) (fun fl s' => match fl with | .next => wpM w A' (execs r (envX "reduce" sc30.1 L 30 (.ref 29) [])) (fun fl s' => Q (retv fl) s') E' s' | f => Q (retv f) s') E' ⟨h3, g, d, t3, os⟩
      | _ => True := by
    intro h3 t3 l S e1 e2 e3 hi
    show wpM w A' (exec (Stmt.For _ _ _ _ _) _) _ _ _
    refine for_iter (B := h) (rest := []) (fun i B' l' rest' => lk l' "function" = some (.ref fa) ∧ ∃ v, lk l' "value" = some v ∧ J i v rest') a' S hl hT hi ⟨e2, v₀, e3, j0⟩ (fun Q' q' => ?_) ?_ ?_
    · repeat' wtm_at "mine w3"
      exact q'
    · rintro i v B' l' rest' h' t' E'' Post hi ⟨f1, x, f2, j⟩ X S pn _ _
      obtain ⟨hfd, hd⟩ := st A' h' i x v rest' _ a' (X.trans S.keep) S.tb (fun p hp => ⟨(S.nw p (.tail _ (.tail _ hp))).1, (S.nw p (.tail _ (.tail _ hp))).2.2.1⟩) j hi
      repeat' wtm_at "mine w3"
      refine ⟨hfd, hd _ _ _ _ _ _ fun r new h4 t4 X4 T4 N4 D4 P4 => ?_⟩
      have S4 := S.call X4 T4 N4 D4
      clear S
      have S := S4.rot
      repeat' wtm_at "mine w3"
      exact pn _ _ _ B' _ new (.inl rfl) (ExtT.refl _ _) S ⟨by wtm_at "mine w_lk", r, by wtm_at "mine w_lk", P4⟩
    · rintro B' l' rest' h' t' ⟨f1, x, f2, j⟩ X S
      repeat' wtm_at "mine w3"
      exact backS X S q j (List.sublist_cons_self _ _)
  rcases hargs with ⟨rfl, rfl, a₀, ys, rfl, Da, nT⟩ | ⟨rfl, rfl, hx0⟩
  · simp only [if_true] at S ⊢
    obtain ⟨o22, e22, c22⟩ := k22 S.kinh
    obtain ⟨oa, ea, na, ra⟩ := S.old Da nT
    have hne : a₀ ≠ 22 := by
      rintro rfl
      rw [e22] at ea; cases ea
      exact c22 (by rw [ra])
    refine o_isOther hne ea e22 (by rw [ra]; exact of_decide_eq_true rfl) ?_
    repeat' wtm_at "mine w3"
    refine loop _ _ _ S.swap (by wtm_at "mine w_lk") (by wtm_at "mine w_lk") (by wtm_at "mine w_lk") (Nat.zero_le _)
  · simp only [if_neg (show ¬ (1 = 0) by decide)] at S ⊢
    refine o_isSelf ?_
    repeat' wtm_at "mine w3"
    refine wpAny_Try_except ?_
    repeat' wtm_at "mine w3"
    refine o_next S .head (S.old hl hT) hx0 fun h5 S => ?_
    repeat' wtm_at "mine w3"
    refine loop _ _ _ S.swap (by wtm_at "mine w_lk") (by wtm_at "mine w_lk") (by wtm_at "mine w_lk") (by have := (List.getElem?_eq_some_iff.mp hx0).1; omega)

theorem s_end {w : World} {A : Around} {h : Heap} {v₁ : Value} {b₁ o₁ c₁ : Int} {n u : Nat} (a : AOk A n u) (hn : Nat.blt n recursionLimit = true) (K : KIn w.params h) (T : Tabs h) (W₁ : IsWork h v₁ b₁ o₁ c₁) :
    Does w A (call (.ref 72) [v₁] []) h fun r new _ => new = [] ∧ ∃ t, r = .int o₁ t := by
  intro Q E g d t os q
  obtain ⟨pm, hf⟩ := fa72 K
  obtain ⟨a₁, t11, t12, t13, rfl, n₁, D₁⟩ := W₁
  refine enter a hn hf K T (ca72 K) (binds := [("work", .ref a₁)]) (l := [("work", .ref a₁)]) (BindsTo.of_eq rfl) fun L h₁ t₁ A' E' a' S => ?_
  refine wpAny_execs_cons ?_
  repeat' wtm_at "mine w3"
  exact back (new := []) S q ⟨rfl, _, rfl⟩
/-- a work with its address and its ints' tokens -/
structure Wk where
  a : Addr
  b : Int
  o : Int
  c : Int
  t1 : Tok
  t2 : Tok
  t3 : Tok
def Wk.led (p : Wk) : Addr × (Obj → Prop) := (p.a, dTup [.int p.b p.t1, .int p.o p.t2, .int p.c p.t3])
def Wk.val (p : Wk) : Value := .ref p.a
def Wk.key (p : Wk) : Int × Int × Int := (p.b, p.o, p.c)
/-- what the dealer holds to -/
def Dealt (i : Nat) (k : Int × Int × Int) : Prop := 0 ≤ k.2.1 ∧ k.1 ≤ k.2.1 ∧ k.2.1 / 2 % 7 = i ∧ (k.1 = k.2.1 → k.2.1 % 2 = 0)
theorem dealt_of (x : Int) (i : Nat) (hi : i < 7) : Dealt i (14 * x.fmod 5 + 2 * i + ((x.fdiv 5).fmod 16).fmod 2 - (x.fdiv 5).fmod 16, 14 * x.fmod 5 + 2 * i + ((x.fdiv 5).fmod 16).fmod 2, x.fdiv 80) := by
  have e1 : x.fmod 5 = x % 5 := Int.fmod_eq_emod_of_nonneg _ (by decide)
  have e2 : ((x.fdiv 5).fmod 16) = x.fdiv 5 % 16 := Int.fmod_eq_emod_of_nonneg _ (by decide)
  have e3 : ((x.fdiv 5 % 16).fmod 2) = x.fdiv 5 % 16 % 2 := Int.fmod_eq_emod_of_nonneg _ (by decide)
  unfold Dealt
  dsimp only
  rw [e1, e2, e3]
  refine ⟨?_, ?_, ?_, ?_⟩ <;> omega
theorem wk_of {w : World} {B h : Heap} {own : Led} {a : Addr} {b o c : Int} {t1 t2 t3 : Tok} (S : St w B h ((a, dTup [.int b t1, .int o t2, .int c t3]) :: own)) : ∃ p : Wk, p.val = .ref a ∧ p.key = (b, o, c) ∧ St w B h (p.led :: own) :=
  ⟨⟨a, b, o, c, t1, t2, t3⟩, rfl, rfl, S⟩
theorem isL_ext {h h' : Heap} {a : Addr} {xs : Array Value} (x : h.IsList a xs) (k : Ext h h') (n : a ∉ Tb) : h'.IsList a xs := let ⟨o, e, r⟩ := x; ⟨o, k _ _ e n, r⟩
theorem s_dealt {w : World} {A : Around} {h : Heap} {sa : Addr} {vs : List Value} {ns : List Int} {n u : Nat} (a : AOk A n u) (hn : Nat.blt n recursionLimit = true) (K : KIn w.params h) (T : Tabs h) (hl : h.IsList sa vs.toArray) (hT : sa ∉ Tb) (hi : IntsAre vs ns) (hz : vs.length ≤ 1000) :
    Does w A (call (.ref 58) [.ref sa] []) h fun r new _ => ∃ (la : Addr) (ps : List Wk), r = .ref la ∧ new = (la, dList (ps.map Wk.val)) :: ps.reverse.map Wk.led ∧ ps.length = 7 ∧ ∀ i p, ps[i]? = some p → Dealt i p.key := by
  intro Q E g d t os q
  obtain ⟨pm, hf⟩ := fa58 K
  refine enter a hn hf K T (ca58 K) (binds := [("script", .ref sa)]) (l := [("script", .ref sa)]) (BindsTo.of_eq rfl) fun L h₁ t₁ A' E' a' S => ?_
  refine wpAny_execs_cons ?_
  repeat' wtm_at "mine w3"
  rename_i fx hx1 hx2 tx1 hx3
  obtain ⟨da, rfl⟩ : ∃ x, x = a := ⟨a, rfl⟩

  refine for_range (B := h) (k := 7) (fun i B' l' rest' => ∃ ps : List Wk, lk l' "script" = some (.ref sa) ∧ lk l' "fixed" = some (.ref fx) ∧ lk l' "dealt" = some (.ref da) ∧
    (∃ ys, rest' = (da, dList (ps.map Wk.val)) :: (fx, dList ys) :: ps.reverse.map Wk.led ∧ ∀ j, j < 7 → ∃ y t, ys[j]? = some (.int y t)) ∧ ps.length = i ∧ ∀ i p, ps[i]? = some p → Dealt i p.key) a' ?_ ?_ ?_ (by decide)
  · repeat' wtm_at "mine w3"
    wtm_at "mine w_bi"
    refine ⟨_, _, _, _, _, rfl, rfl, S.mem .head, S.tl.perm (List.perm_middle (l₁ := [_, _]) (l₂ := [])), [], by wtm_at "mine w_lk", by wtm_at "mine w_lk", by wtm_at "mine w_lk", ⟨_, rfl, fun j hj => ?_⟩, rfl, fun i p hp => by simp at hp⟩
    have : j = 0 ∨ j = 1 ∨ j = 2 ∨ j = 3 ∨ j = 4 ∨ j = 5 ∨ j = 6 := by omega
    rcases this with rfl | rfl | rfl | rfl | rfl | rfl | rfl <;> exact ⟨_, _, rfl⟩
  · rintro i tk B' l' rest' it h' t' E'' Post hi7 ⟨ps, j1, j2, j3, ⟨ys, rfl, j4⟩, j5, j6⟩ X S pn _ _
    have hl' := isL_ext hl X hT
    have hsz : vs.length ≤ sizeLine := by rw [sizeLine_eq]; omega
    have hps : (ps.map Wk.val).length ≤ sizeLine := by rw [sizeLine_eq, List.length_map]; omega
    obtain ⟨y, ty, hy⟩ := j4 i hi7
    repeat' wtm_at "mine w3"
    refine ⟨_, _, _, _, rfl, S, fun _ _ z => (by cases z), fun sl h2 S => ?_⟩
    refine ⟨(isL_ext hl' S.keep hT).typeIs, ?_⟩
    refine o_slice (lo := some (i : Int)) (hi := none) (st := some 7) S (isL_ext hl' S.keep hT) (S.mem .head) (.int _ _) .none (.int _ _) (by decide) hsz fun wl h3 S => ?_
    repeat' wtm_at "mine w3"
    refine o_sum a'.hd S (S.mem .head).list (hi.pick (some (i : Int)) none (some 7)) fun h4 t4 x4 S => ?_
    generalize (pickNums ns (some (i : Int)) none (some 7)).sum = z at *
    repeat' wtm_at "mine w3"
    refine item_lst (S.mem (by wtm_at "mine m_lm")) (by omega) (by omega) (x := .int y ty) (by simpa using hy) ?_
    repeat' wtm_at "mine w3"
    rename_i hq1 hq2 hq3 hq4
    repeat' wtm_at "mine w4"
    refine o_append S (by wtm_at "mine m_lu") hps fun h5 S => ?_
    repeat' wtm_at "mine w4"
    obtain ⟨p0, ep1, ep2, S0⟩ := wk_of S
    have S1 := S0.sublist (own' := p0.led :: ([_, _, _, _] ++ ps.reverse.map Wk.led)) (by
      refine .cons_cons _ (.cons _ (.cons _ (.cons_cons _ (.cons_cons _ (.cons_cons _ (.cons_cons _ (List.Sublist.refl _))))))))
    have S2 := S1.perm (List.perm_middle).symm
    refine pn _ _ _ B' _ _ (.inl rfl) (ExtT.refl _ _) S2 ⟨ps ++ [p0], by wtm_at "mine w_lk", by wtm_at "mine w_lk", by wtm_at "mine w_lk", ⟨ys, ?_, j4⟩, by simp [j5], fun j p hp => ?_⟩
    · simp [ep1]
    · rw [List.getElem?_append] at hp
      split at hp
      · exact j6 j p hp
      · rename_i hj
        have : j = i := by
          have := (List.getElem?_eq_some_iff.mp hp).1
          simp at this; omega
        subst this
        rw [j5, Nat.sub_self] at hp
        simp at hp
        subst hp
        rw [ep2]
        exact dealt_of (z + y) j hi7
  · rintro B' l' rest' h' t' ⟨ps, j1, j2, j3, ⟨ys, rfl, j4⟩, j5, j6⟩ X S
    repeat' wtm_at "mine w3"
    refine backS X S q ⟨da, ps, rfl, rfl, j5, j6⟩ ?_
    refine .cons _ (.cons_cons _ (.cons _ (List.Sublist.refl _)))

abbrev Ch := Int × List K3
def chOk (k : K3) (p : Ch) : Bool := p.2.all fun x => fits x.1 x.2.1 k.1 k.2.1
def chAdd (k : K3) (p : Ch) : Ch := (p.1 + k.2.2, p.2 ++ [k])
def chStep (c : List Ch) (k : K3) : List Ch := c ++ (c.filter (chOk k)).map (chAdd k)
def chs (ks : List K3) : List Ch := ks.foldl chStep [(0, [])]
def IsCh (h : Heap) (v : Value) (c : Ch) : Prop := ∃ t tk kl kvs, v = .ref t ∧ t ∉ Tb ∧ kl ∉ Tb ∧ At h t (dTup [.int c.1 tk, .ref kl]) ∧ At h kl (dList kvs) ∧ Are (IsW h) kvs c.2
theorem IsCh.ext {h h' : Heap} {v : Value} {c : Ch} (x : IsCh h v c) (k : Ext h h') : IsCh h' v c :=
  let ⟨t, tk, kl, kvs, e, n1, n2, a, b, r⟩ := x; ⟨t, tk, kl, kvs, e, n1, n2, a.ext k n1, b.ext k n2, r.mono fun _ _ z => IsWork.ext z k⟩
def Due (ns : List Int) (ks : List K3) : Prop := ns.length = ks.length + 1 ∧ ∀ i, i ≤ ks.length → ∃ M, ns[i]? = some M ∧ M ∈ (chs (ks.take i)).map (·.1) ∧ ∀ a ∈ (chs (ks.take i)).map (·.1), a ≤ M
theorem chs_len (ks : List K3) : (chs ks).length ≤ 2 ^ ks.length := by
  have : ∀ (r : List K3) (c : List Ch), (r.foldl chStep c).length ≤ c.length * 2 ^ r.length := by
    intro r
    induction r with
    | nil => intro c; simp
    | cons k r ih =>
      intro c
      have h1 := ih (chStep c k)
      have h2 : (chStep c k).length ≤ c.length * 2 := by
        unfold chStep
        rw [List.length_append, List.length_map]
        have := List.length_filter_le (chOk k) c
        omega
      rw [List.foldl_cons, List.length_cons, Nat.pow_succ]
      calc _ ≤ _ := h1
        _ ≤ c.length * 2 * 2 ^ r.length := Nat.mul_le_mul_right _ h2
        _ = _ := by rw [Nat.mul_assoc, Nat.mul_comm 2]
  have h := this ks [(0, [])]
  simp only [List.length_singleton, Nat.one_mul] at h
  exact h
theorem chs_small {ks : List K3} (h : ks.length ≤ 10) : (chs ks).length ≤ 1024 := Nat.le_trans (chs_len ks) (Nat.pow_le_pow_right (n := 2) (by decide) h)
theorem chs_kept (ks : List K3) : ∀ c ∈ chs ks, c.2.length ≤ ks.length := by
  have : ∀ (r : List K3) (cs : List Ch) (n : Nat), (∀ c ∈ cs, c.2.length ≤ n) → ∀ c ∈ r.foldl chStep cs, c.2.length ≤ n + r.length := by
    intro r
    induction r with
    | nil => intro cs n h; simpa using h
    | cons k r ih =>
      intro cs n h c hc
      have := ih (chStep cs k) (n + 1) (fun c hc => by
        unfold chStep at hc
        rcases List.mem_append.mp hc with hc | hc
        · exact Nat.le_succ_of_le (h c hc)
        · obtain ⟨p, hp, rfl⟩ := List.mem_map.mp hc
          have := h p (List.mem_filter.mp hp).1
          simp [chAdd]; omega) c hc
      rw [List.length_cons]; omega
  intro c hc
  have h := this ks [(0, [])] 0 (by simp) c hc
  omega
theorem chs_pos (ks : List K3) : 0 < (chs ks).length := by
  have : ∀ (r : List K3) (c : List Ch), 0 < c.length → 0 < (r.foldl chStep c).length := by
    intro r
    induction r with
    | nil => intro c h; exact h
    | cons k r ih =>
      intro c h
      refine ih _ ?_
      unfold chStep
      rw [List.length_append]; omega
  exact this ks _ (by simp)
theorem Due.snoc {ns : List Int} {ks : List K3} {i : Nat} {k : K3} {M : Int} (d : Due ns (ks.take i)) (hk : ks[i]? = some k) (h1 : M ∈ (chs (ks.take (i + 1))).map (·.1)) (h2 : ∀ a ∈ (chs (ks.take (i + 1))).map (·.1), a ≤ M) : Due (ns ++ [M]) (ks.take (i + 1)) := by
  obtain ⟨dl, d⟩ := d
  have hi : i < ks.length := (List.getElem?_eq_some_iff.mp hk).1
  rw [List.length_take, Nat.min_eq_left (Nat.le_of_lt hi)] at dl d
  have l2 : (ks.take (i + 1)).length = i + 1 := by rw [List.length_take]; omega
  refine ⟨by rw [List.length_append, dl, l2]; rfl, fun j hj => ?_⟩
  rw [l2] at hj
  rcases Nat.lt_or_ge i j with hij | hij
  · obtain rfl : j = i + 1 := by omega
    refine ⟨M, by rw [List.getElem?_append_right (by omega), dl]; simp, ?_, ?_⟩ <;> rw [List.take_take, Nat.min_self] <;> assumption
  · obtain ⟨N, e1, e2, e3⟩ := d j hij
    refine ⟨N, by rw [List.getElem?_append_left (by omega)]; exact e1, ?_, ?_⟩
    · rw [List.take_take, Nat.min_eq_left hij] at e2
      rw [List.take_take, Nat.min_eq_left (by omega)]; exact e2
    · rw [List.take_take, Nat.min_eq_left hij] at e3
      rw [List.take_take, Nat.min_eq_left (by omega)]; exact e3
theorem s_greatest {w : World} {A : Around} {h : Heap} {la : Addr} {xs : List Value} {ks : List K3} {n u : Nat} (a : AOk A n u) (hn : Nat.blt (n + 1) recursionLimit = true) (K : KIn w.params h) (T : Tabs h)
    (hl : At h la (dList xs)) (hT : la ∉ Tb) (hx : Are (IsW h) xs ks) (hz : ks.length ≤ 10) :
    Does w A (call (.ref 91) [.ref la] []) h fun r new _ => ∃ da dvs ns, r = .ref da ∧ new = [(da, dList dvs)] ∧ IntsAre dvs ns ∧ Due ns ks := by
  intro Q E g d t os q
  have hn0 : Nat.blt n recursionLimit = true := Nat.ble_eq_true_of_le (by have := Nat.le_of_ble_eq_true hn; omega)
  obtain ⟨pm, hf⟩ := fa91 K
  refine enterC a hn0 hf K T (ca91 K) (binds := [("works", .ref la)]) (cls := fun L => [("work", L + 1)]) (led := fun L => [(L + 1, dCell none)]) (l := [("works", .ref la)]) rfl (fun _ => rfl) (fun _ => rfl) rfl (fun L h₁ t₁ A' E' a' S => ?_) (fun _ => rfl)
  simp only [List.cons_append, List.nil_append] at S
  refine wpAny_execs_cons ?_
  repeat' wtm_at "mine w5"
  rename_i e0 hq1 tp0 hq2 ca hq3 hq4 hq5 hq6 hq7
  obtain ⟨da, rfl⟩ : ∃ x, x = a := ⟨a, rfl⟩
  obtain ⟨B0, X0, F0, S⟩ := S.frz (new := [_, _, _]) (own' := [_, _, _]) (List.perm_middle (l₁ := [_, _, _]) (l₂ := [_, _])).symm
  have f1 := F0 _ (.head _)
  have f2 := F0 _ (.tail _ (.head _))
  have f3 := F0 _ (.tail _ (.tail _ (.head _)))
  refine for_gen (B := B0) (fun i B' rest' => ∃ ca cvs dvs ns l cv, lk l "works" = some (.ref la) ∧ lk l "choices" = some (.ref ca) ∧ lk l "due" = some (.ref da) ∧ rest' = [(da, dList dvs), (L + 1, dCell cv), (L, dNs (lk l))] ∧
    ca ∉ Tb ∧ At B' ca (dList cvs) ∧ Are (IsCh B') cvs (chs (ks.take i)) ∧ IntsAre dvs ns ∧ Due ns (ks.take i)) a' S (hl.ext X0 hT) hT ?_ (fun Q' q' => ?_) ?_ ?_ (fun _ => rfl) (fun _ _ => rfl)
  · refine ⟨_, _, _, [0], _, none, by wtm_at "mine w_lk", by wtm_at "mine w_lk", by wtm_at "mine w_lk", rfl, f1.2, f1.1, .cons ⟨_, _, _, _, rfl, f2.2, f3.2, f2.1, f3.1, .nil⟩ .nil, .cons _ _ .nil, ?_⟩
    refine ⟨rfl, fun i hi => ⟨0, ?_, ?_, ?_⟩⟩ <;> simp at hi <;> subst hi <;> simp [chs]
  · repeat' wtm_at "mine w5"
    exact q'
  · rintro i v B' rest' it h' t' E'' Post hv ⟨ca, cvs, dvs, ns, l, cv, j1, j2, j3, rfl, nca, j4, j5, j6, j7⟩ X S pn _ _
    obtain ⟨k, hk, W₁⟩ := hx.get hv
    have XX := X0.trans X
    obtain ⟨wa, t11, t12, t13, rfl, nw, D₁⟩ := W₁.ext XX
    have hcz : cvs.length ≤ 1024 := by rw [j5.length]; exact chs_small (by rw [List.length_take]; omega)
    have hsl : (1024 : Nat) * 1024 ≤ sizeLine := by rw [sizeLine_eq]; decide
    refine wpAny_assign_Name ?_
    wtm_at "mine w_store"
    refine wpAny_execs_cons ?_
    refine r_AssignComp (fun j ys Bc => Are (IsCh Bc) ys ((((chs (ks.take i)).take j).filter (chOk k)).map (chAdd k))) a'.hd S j4 nca (fun j v hv => ?_) .nil (fun Q' q' => ?_) ?_ l
      (fun D => [(it, dLIt la (i + 1)), (da, dList dvs), (L + 1, dCell (some (.ref wa))), (L, dNs (lk (setL "more" (.ref D) l)))]) (fun D => .tail (.tail (.tail .head))) ?_ rfl rfl (fun _ => rfl) rfl rfl rfl rfl rfl
    · obtain ⟨c, hc, t, _, _, _, rfl, _⟩ := j5.get hv
      exact ⟨t, rfl⟩
    · repeat' wtm_at "mine w5"
      exact q'
    · rintro j v ys B2 l2 D C it2 h2 t2 E2 hv j8 X2 S
      obtain ⟨c, hc, tp, tk, kl, kvs, rfl, n1, n2, d1, d2, d3⟩ := j5.get hv
      have d1' := d1.ext X2 n1
      have d2' := d2.ext X2 n2
      have D₁' := D₁.ext X2 nw
      refine o_unpack a'.hd S (S.old d1' n1) rfl rfl fun h5 S => ?_
      repeat' wtm_at "mine k_un"
      repeat' wtm_at "mine w5"
      refine ⟨let ⟨_, hf⟩ := fa86 S.kinh; ⟨_, hf⟩, s_fits (v₂ := .ref wa) c.2 a' hn S.kinh S.tb (S.old d2' n2) n2 (d3.mono fun _ _ z => (IsWork.ext z X2).ext S.keep) ⟨wa, _, _, _, rfl, nw, S.old D₁' nw⟩ _ _ _ _ _ _ fun v new h6 t6 X6 T6 N6 D6 P6 => ?_⟩
      obtain ⟨rfl, rfl⟩ := P6
      have S6 := S.call X6 T6 N6 D6
      clear S
      have S := S6
      simp only [List.nil_append] at S
      have hcz2 := chs_kept _ c (List.mem_of_getElem? hc)
      rw [List.length_take] at hcz2
      have hkl := d3.length
      have htk : (chs (ks.take i)).take (j + 1) = (chs (ks.take i)).take j ++ [c] := by rw [List.take_add_one, hc]; rfl
      have hyl : ys.length ≤ sizeLine := by
        have h1 := j8.length
        rw [List.length_map] at h1
        have h2 := List.length_filter_le (chOk k) ((chs (ks.take i)).take j)
        have h3 := List.length_take_le' j (chs (ks.take i))
        have h4 := j5.length
        omega
      repeat' wtm_at "mine w5"
      · refine o_addL S (S.old d2' n2) (S.mem .head) (fun nl h7 S => ?_) (by simp; omega)
        repeat' wtm_at "mine w5"
        obtain ⟨B3, X3, F3, S⟩ := S.frz (new := [_, _, _]) (List.Perm.refl _)
        have g1 := F3 _ (.head _)
        have g2 := F3 _ (.tail _ (.head _))
        refine ⟨_, _, B3, _, rfl, X3, S, hyl, ?_⟩
        rw [htk, List.filter_append, List.map_append]
        refine (j8.mono fun _ _ z => z.ext X3).append ?_
        rw [List.filter_cons_of_pos (by unfold chOk; simp only [*])]
        exact .cons ⟨_, _, _, _, rfl, g1.2, g2.2, g1.1, g2.1, (d3.mono fun _ _ z => (IsWork.ext z X2).ext X3).append (.cons (IsWork.ext (IsWork.ext ⟨wa, _, _, _, rfl, nw, D₁⟩ X2) X3) .nil)⟩ .nil
      · refine ⟨_, _, B2, _, rfl, ExtT.refl _ _, S, ?_⟩
        rw [htk, List.filter_append, List.map_append, List.filter_cons_of_neg (by unfold chOk; simp only [*]; decide)]
        simpa using j8
    · rintro ys B2 D h2 t2 j8 X2 S
      rw [j5.length, List.take_length] at j8
      have hyl : ys.length ≤ 1024 := by
        have h1 := j8.length
        rw [List.length_map] at h1
        have h2 := List.length_filter_le (chOk k) (chs (ks.take i))
        have h4 := j5.length
        omega
      repeat' wtm_at "mine w5"
      refine o_addL S (S.old (j4.ext X2 nca) nca) (S.mem .head) (fun ca2 h7 S => ?_) (by omega)
      repeat' wtm_at "mine w5"
      obtain ⟨B3, X3, F3, S⟩ := S.frz (new := [_, _]) (List.Perm.refl _)
      have g1 := F3 _ (.head _)
      have hch : chs (ks.take (i + 1)) = chs (ks.take i) ++ ((chs (ks.take i)).filter (chOk k)).map (chAdd k) := by
        rw [List.take_add_one, hk]
        simp only [chs, Option.toList_some, List.foldl_append, List.foldl_cons, List.foldl_nil, chStep]
      have j9 : Are (IsCh B3) (cvs ++ ys) (chs (ks.take (i + 1))) := by
        rw [hch]
        exact ((j5.mono fun _ _ z => z.ext X2).append j8).mono fun _ _ z => z.ext X3
      refine r_ListComp (xs := cvs ++ ys) (fun j ws Bc => IntsAre ws (((chs (ks.take (i + 1))).take j).map (·.1))) (AOk.hd a') S g1.1 g1.2 (fun j v hv => ?_) .nil (fun Q' q' => ?_) ?_ ?_ rfl (fun _ => rfl) rfl rfl rfl
      · obtain ⟨c, hc, t, _, _, _, rfl, _⟩ := j9.get hv
        exact ⟨t, rfl⟩
      · repeat' wtm_at "mine w5"
        exact q'
      · rintro j v ws B4 l4 D4 C4 it4 h4 t4 E4 hv4 j10 X4 S
        obtain ⟨c, hc, tp, tk, kl, kvs, rfl, n1, n2, d1, d2, d3⟩ := j9.get hv4
        have d1' := d1.ext X4 n1
        refine o_unpack (AOk.hd a') S (S.old d1' n1) rfl rfl fun h5 S => ?_
        repeat' wtm_at "mine k_un"
        repeat' wtm_at "mine w5"
        refine ⟨_, _, B4, _, rfl, ExtT.refl _ _, S, ?_, ?_⟩
        · have h1 := j10.length
          rw [List.length_map] at h1
          have h3 := List.length_take_le' j (chs (ks.take (i + 1)))
          have h5 := j9.length
          rw [List.length_append] at h5
          omega
        · have htk : (chs (ks.take (i + 1))).take (j + 1) = (chs (ks.take (i + 1))).take j ++ [c] := by rw [List.take_add_one, hc]; rfl
          rw [htk, List.map_append]
          exact IntsAre.append j10 (.cons _ _ .nil)
      · rintro ws B4 D4 h4 t4 j10 X4 S
        rw [j9.length, List.take_length] at j10
        repeat' wtm_at "mine w5"
        have hdl : dvs.length ≤ sizeLine := by
          have e1 := j6.length
          have e2 := j7.1
          have e3 := List.length_take_le i ks
          have e4 : (ks.take i).length ≤ 10 := by rw [List.length_take]; omega
          omega
        refine o_maxL (AOk.hd a') S (S.mem .head).list j10 (by rw [List.length_map]; exact chs_pos _) fun h5 t5 M tk S hM1 hM2 => ?_
        repeat' wtm_at "mine w5"
        refine o_append S (xs := dvs) (v := .int M tk) (by wtm_at "mine m_lu") hdl fun h6 S => ?_
        repeat' wtm_at "mine w5"
        exact pn _ _ _ B4 _ (.inl rfl) (X2.trans (X3.trans X4)) S.tl ⟨ca2, cvs ++ ys, _, _, _, _, by wtm_at "mine w_lk", by wtm_at "mine w_lk", by wtm_at "mine w_lk", rfl, g1.2, g1.1.ext X4 g1.2, j9.mono fun _ _ z => z.ext X4, IntsAre.append j6 (.cons M tk .nil), j7.snoc hk hM1 hM2⟩
  · rintro B' rest' h' t' ⟨ca, cvs, dvs, ns, l, cv, j1, j2, j3, rfl, nca, j4, j5, j6, j7⟩ X S
    repeat' wtm_at "mine w5"
    rw [hx.length, List.take_length] at j7
    exact backS (X0.trans X) S q ⟨_, _, _, rfl, rfl, j6, j7⟩ (by wtm_at "mine m_sl")

inductive Runs (o : Nat → Nat → Bool) (n : Nat) {α : Type} : KasT α → α → Prop
  | ret (a : α) : Runs o n (.ret a) a
  | ask {i j : Nat} {k : Bool → KasT α} {a : α} (hi : i < n) (hj : j < n) (r : Runs o n (k (o i j)) a) : Runs o n (.ask i j k) a
theorem Runs.bind {o : Nat → Nat → Bool} {n : Nat} {α β : Type} {t : KasT α} {f : α → KasT β} {a : α} {b : β} (r : Runs o n t a) (r' : Runs o n (f a) b) : Runs o n (t.bind f) b := by
  induction r with
  | ret a => exact r'
  | ask hi hj r ih => exact .ask hi hj (ih r')
/-- a run of the tree, where each question is answered by o -/
theorem Runs.wp {o : Nat → Nat → Bool} {n : Nat} {α : Type} {cmp : Nat → Nat → (Bool → Shared → Prop) → Shared → Prop} (I : Shared → Prop) (hc : ∀ i j C s, i < n → j < n → I s → (∀ s', I s' → C (o i j) s') → cmp i j C s)
    {Q : α → Shared → Prop} {t : KasT α} {a : α} (r : Runs o n t a) : ∀ {s : Shared}, I s → (∀ s', I s' → Q a s') → t.kasWp cmp Q s := by
  induction r with
  | ret a => intro s hi q; exact q s hi
  | ask hi hj r ih => intro s h q; exact hc _ _ _ _ hi hj h fun s' h' => ih h' q
section
variable {κ : Nat → Int} {n : Nat}
def GG (κ : Nat → Int) (p : Array Nat) (k : Nat) : Int := κ (p.getD k 0)
structure Pm (κ : Nat → Int) (n : Nat) (p : Array Nat) : Prop where
  sz : p.size = n
  perm : p.Perm (List.toArray (List.range n))
  ne : ∀ i j, i < n → j < n → i ≠ j → GG κ p i ≠ GG κ p j
theorem Pm.lt {p : Array Nat} (P : Pm κ n p) {k : Nat} (hk : k < n) : p.getD k 0 < n := by
  have hs : k < p.size := by rw [P.sz]; exact hk
  have hm : p.getD k 0 ∈ p.toList := by
    have : p.getD k 0 = p[k] := by simp [Array.getD, hs]
    rw [this]
    simp
  have := (Array.perm_iff_toList_perm.mp P.perm).mem_iff.mp hm
  simpa using this
theorem getD_congr {xs ys : Array Nat} {i j : Nat} (h : xs[i]? = ys[j]?) : xs.getD i 0 = ys.getD j 0 := by
  rw [Array.getD_eq_getD_getElem?, Array.getD_eq_getD_getElem?, h]
theorem ne_of_perm {p : Array Nat} (inj : ∀ i j, i < n → j < n → κ i = κ j → i = j) (hs : p.size = n) (hp : p.Perm (List.toArray (List.range n))) : Pm κ n p := by
  have hl := Array.perm_iff_toList_perm.mp hp
  have nd : p.toList.Nodup := hl.nodup_iff.mpr (by simpa using List.nodup_range)
  have lt : ∀ k, k < n → p.getD k 0 < n := fun k hk => by
    have hs : k < p.size := by rw [hs]; exact hk
    have hm : p.getD k 0 ∈ p.toList := by
      have : p.getD k 0 = p[k] := by simp [Array.getD, hs]
      rw [this]; simp
    have := hl.mem_iff.mp hm
    simpa using this
  refine ⟨hs, hp, fun i j hi hj hij e => ?_⟩
  have e1 := inj _ _ (lt i hi) (lt j hj) e
  have hi' : i < p.toList.length := by simpa [hs] using hi
  have hj' : j < p.toList.length := by simpa [hs] using hj
  have a1 : p.getD i 0 = p.toList[i] := by simp [Array.getD, hs, hi]
  have a2 : p.getD j 0 = p.toList[j] := by simp [Array.getD, hs, hj]
  rw [a1, a2] at e1
  have hpw := List.pairwise_iff_getElem.mp nd
  rcases Nat.lt_or_gt_of_ne hij with h | h
  · exact hpw i j hi' hj' h e1
  · exact hpw j i hj' hi' h e1.symm
abbrev oo (κ : Nat → Int) : Nat → Nat → Bool := fun i j => decide (κ i < κ j)
theorem asc_runs {p : Array Nat} (P : Pm κ n p) : ∀ (f k : Nat), 1 ≤ k → k + f ≤ n → ∃ m, Runs (oo κ) n (kas_asc p f k) m ∧ k ≤ m ∧ m ≤ k + f ∧ (∀ t, k ≤ t → t < m → GG κ p (t - 1) < GG κ p t) ∧ (m < k + f → GG κ p m < GG κ p (m - 1))
  | 0, k, h1, hk => ⟨k, .ret k, Nat.le_refl _, Nat.le_refl _, fun t a b => absurd b (Nat.not_lt.mpr a), fun h => absurd h (Nat.lt_irrefl _)⟩
  | f + 1, k, h1, hk => by
    have e1 := P.lt (k := k) (by omega)
    have e2 := P.lt (k := k - 1) (by omega)
    by_cases hc : GG κ p k < GG κ p (k - 1)
    · refine ⟨k, .ask e1 e2 ?_, Nat.le_refl _, by omega, fun t a b => absurd b (Nat.not_lt.mpr a), fun _ => hc⟩
      have : oo κ (p.getD k 0) (p.getD (k - 1) 0) = true := decide_eq_true hc
      rw [this]
      exact .ret k
    · obtain ⟨m, r, a1, a2, a3, a4⟩ := asc_runs P f (k + 1) (by omega) (by omega)
      refine ⟨m, .ask e1 e2 ?_, by omega, by omega, fun t ht1 ht2 => ?_, fun h => a4 (by omega)⟩
      · have : oo κ (p.getD k 0) (p.getD (k - 1) 0) = false := decide_eq_false hc
        rw [this]
        exact r
      · rcases Nat.eq_or_lt_of_le ht1 with rfl | h
        · have := P.ne (k - 1) k (by omega) (by omega) (by omega)
          omega
        · exact a3 t h ht2
theorem desc_runs {p : Array Nat} (P : Pm κ n p) : ∀ (f k : Nat), 1 ≤ k → k + f ≤ n → ∃ m, Runs (oo κ) n (kas_desc f p k 0) (p, m, 0) ∧ k ≤ m ∧ m ≤ k + f ∧ (∀ t, k ≤ t → t < m → GG κ p t < GG κ p (t - 1))
  | 0, k, h1, hk => ⟨k, .ret _, Nat.le_refl _, Nat.le_refl _, fun t a b => absurd b (Nat.not_lt.mpr a)⟩
  | f + 1, k, h1, hk => by
    have e1 := P.lt (k := k) (by omega)
    have e2 := P.lt (k := k - 1) (by omega)
    by_cases hc : GG κ p k < GG κ p (k - 1)
    · obtain ⟨m, r, a1, a2, a3⟩ := desc_runs P f (k + 1) (by omega) (by omega)
      refine ⟨m, .ask e1 e2 ?_, by omega, by omega, fun t ht1 ht2 => ?_⟩
      · have : oo κ (p.getD k 0) (p.getD (k - 1) 0) = true := decide_eq_true hc
        rw [this]
        exact r
      · rcases Nat.eq_or_lt_of_le ht1 with rfl | h
        · exact hc
        · exact a3 t h ht2
    · refine ⟨k, .ask e1 e2 ?_, Nat.le_refl _, by omega, fun t a b => absurd b (Nat.not_lt.mpr a)⟩
      have h0 : oo κ (p.getD k 0) (p.getD (k - 1) 0) = false := decide_eq_false hc
      rw [h0]
      refine .ask e2 e1 ?_
      have h2 : oo κ (p.getD (k - 1) 0) (p.getD k 0) = true := decide_eq_true (by
        have := P.ne (k - 1) k (by omega) (by omega) (by omega)
        show GG κ p (k - 1) < GG κ p k
        omega)
      rw [h2]
      exact .ret _
def UpTo (κ : Nat → Int) (p : Array Nat) (m : Nat) : Prop := ∀ t, 1 ≤ t → t < m → GG κ p (t - 1) < GG κ p t
theorem UpTo.lt {p : Array Nat} {m : Nat} (u : UpTo κ p m) : ∀ (d i : Nat), i + d + 1 < m → GG κ p i < GG κ p (i + d + 1)
  | 0, i, h => u (i + 1) (by omega) h
  | d + 1, i, h => Int.lt_trans (u.lt d i (by omega)) (u (i + d + 1 + 1) (by omega) (by omega))
theorem UpTo.lt' {p : Array Nat} {m : Nat} (u : UpTo κ p m) {i j : Nat} (h : i < j) (hj : j < m) : GG κ p i < GG κ p j := by
  have := u.lt (j - i - 1) i (by omega)
  rwa [show i + (j - i - 1) + 1 = j by omega] at this
theorem rev_get {p : Array Nat} {m : Nat} (hm : m ≤ p.size) (k : Nat) : GG κ (kas_rev p 0 m) k = if k < m then GG κ p (m - 1 - k) else GG κ p k := by
  have e := getElem?_mirror_all (i := 0) hm k
  have : (kas_rev p 0 m)[k]? = if 0 ≤ k ∧ k < m then p[0 + m - 1 - k]? else p[k]? := e
  unfold GG
  by_cases h : k < m
  · rw [if_pos h]
    rw [if_pos ⟨Nat.zero_le _, h⟩, Nat.zero_add] at this
    rw [getD_congr this]
  · rw [if_neg h]
    rw [if_neg (fun q => h q.2)] at this
    rw [getD_congr this]
theorem count_runs (inj : ∀ i j, i < n → j < n → κ i = κ j → i = j) {p : Array Nat} (P : Pm κ n p) (h2 : 2 ≤ n) : ∃ m p', Runs (oo κ) n (kas_count n p) (m, p') ∧ 1 ≤ m ∧ m ≤ n ∧ Pm κ n p' ∧ UpTo κ p' m := by
  obtain ⟨m, r, a1, a2, a3, a4⟩ := asc_runs P (n - 1) 1 (Nat.le_refl _) (by omega)
  unfold kas_count
  by_cases e1 : m = n
  · refine ⟨m, p, r.bind ?_, a1, by omega, P, fun t h1 h2 => a3 t h1 h2⟩
    rw [if_pos (by simpa using e1)]
    exact .ret _
  · by_cases e2 : m > 1
    · refine ⟨m, p, r.bind ?_, a1, by omega, P, fun t h1 h2 => a3 t h1 h2⟩
      rw [if_neg (by simpa using e1), if_pos e2]
      refine .ask (P.lt (by omega)) (P.lt (by omega)) ?_
      have u : UpTo κ p m := fun t h1 h2 => a3 t h1 h2
      have : oo κ (p.getD 0 0) (p.getD (m - 1) 0) = true := decide_eq_true (u.lt' (by omega) (by omega))
      rw [this]
      exact .ret _
    · have hm1 : m = 1 := by omega
      subst hm1
      have hlt := a4 (by omega)
      obtain ⟨m', r', b1, b2, b3⟩ := desc_runs P (n - (1 + 1)) (1 + 1) (by omega) (by omega)
      have hsz : m' ≤ p.size := by rw [P.sz]; omega
      have P' : Pm κ n (kas_rev p 0 m') := ne_of_perm inj (by rw [kas_rev_size, P.sz]) ((mirror_perm _ _ _ _).trans P.perm)
      obtain ⟨m2, r2, c1, c2, c3, _⟩ := asc_runs P' (n - m') m' (by omega) (by omega)
      refine ⟨m2, kas_rev p 0 m', r.bind ?_, by omega, by omega, P', fun t h1 h2 => ?_⟩
      · rw [if_neg (by simpa using e1), if_neg e2]
        unfold kas_descPart
        refine r'.bind ?_
        rw [if_neg (Nat.lt_irrefl 0)]
        unfold kas_tail3
        exact r2.bind (.ret _)
      · by_cases hm : m' ≤ t
        · exact c3 t hm h2
        · rw [rev_get hsz, rev_get hsz, if_pos (by omega), if_pos (by omega)]
          have e : m' - 1 - (t - 1) = (m' - 1 - t) + 1 := by omega
          rw [e]
          by_cases ht : m' - 1 - t + 1 = 1
          · rw [ht, show m' - 1 - t = 0 by omega]; exact hlt
          · exact b3 (m' - 1 - t + 1) (by omega) (by omega)
theorem place_runs {p : Array Nat} (P : Pm κ n p) {k : Nat} (hk : k < n) (u : UpTo κ p k) : ∀ (f l r : Nat), l ≤ r → r ≤ k → r - l ≤ f → (∀ t, t < l → GG κ p t < GG κ p k) → (∀ t, r ≤ t → t < k → GG κ p k < GG κ p t) →
    ∃ l', Runs (oo κ) n (kas_place p k f l r) l' ∧ l' ≤ k ∧ (∀ t, t < l' → GG κ p t < GG κ p k) ∧ (∀ t, l' ≤ t → t < k → GG κ p k < GG κ p t)
  | 0, l, r, h1, h2, h3, h4, h5 => ⟨l, .ret l, by omega, h4, fun t a b => h5 t (by omega) b⟩
  | f + 1, l, r, h1, h2, h3, h4, h5 => by
    unfold kas_place
    by_cases hlr : l ≥ r
    · rw [if_pos hlr]
      exact ⟨l, .ret l, by omega, h4, fun t a b => h5 t (by omega) b⟩
    · rw [if_neg hlr]
      by_cases hc : GG κ p k < GG κ p ((l + r) / 2)
      · obtain ⟨l', r', a1, a2, a3⟩ := place_runs P hk u f l ((l + r) / 2) (by omega) (by omega) (by omega) h4 (fun t a b => by
          rcases Nat.eq_or_lt_of_le a with rfl | h
          · exact hc
          · exact Int.lt_trans hc (u.lt' h b))
        refine ⟨l', .ask (P.lt hk) (P.lt (by omega)) ?_, a1, a2, a3⟩
        have : oo κ (p.getD k 0) (p.getD ((l + r) / 2) 0) = true := decide_eq_true hc
        rw [this]
        exact r'
      · have hne := P.ne ((l + r) / 2) k (by omega) hk (by omega)
        obtain ⟨l', r', a1, a2, a3⟩ := place_runs P hk u f ((l + r) / 2 + 1) r (by omega) (by omega) (by omega) (fun t a => by
          rcases Nat.eq_or_lt_of_le (Nat.le_of_lt_succ a) with rfl | h
          · omega
          · have := u.lt' h (by omega); omega) h5
        refine ⟨l', .ask (P.lt hk) (P.lt (by omega)) ?_, a1, a2, a3⟩
        have : oo κ (p.getD k 0) (p.getD ((l + r) / 2) 0) = false := decide_eq_false hc
        rw [this]
        exact r'
theorem bub_get {p : Array Nat} {k l : Nat} (hk : k < p.size) (hl : l ≤ k) (t : Nat) : GG κ (bubble p k (k - l)) t = if t = l then GG κ p k else if l < t ∧ t ≤ k then GG κ p (t - 1) else GG κ p t := by
  have e := getElem?_bubble hk (k - l) (by omega) t
  rw [show k - (k - l) = l by omega] at e
  unfold GG
  by_cases h : t = l
  · rw [if_pos h] at e ⊢; rw [getD_congr e]
  · rw [if_neg h] at e ⊢
    by_cases h' : l < t ∧ t ≤ k
    · rw [if_pos h'] at e ⊢; rw [getD_congr e]
    · rw [if_neg h'] at e ⊢; rw [getD_congr e]
theorem bin_runs (inj : ∀ i j, i < n → j < n → κ i = κ j → i = j) : ∀ (f k : Nat) (p : Array Nat), Pm κ n p → 1 ≤ k → k + f = n → UpTo κ p k → ∃ p', Runs (oo κ) n (kas_bin f p k) p' ∧ Pm κ n p' ∧ UpTo κ p' n
  | 0, k, p, P, h1, hk, u => ⟨p, .ret p, P, by rw [← hk]; exact u⟩
  | f + 1, k, p, P, h1, hk, u => by
    obtain ⟨l, r, a1, a2, a3⟩ := place_runs P (by omega) u k 0 k (Nat.zero_le _) (Nat.le_refl _) (by omega) (fun t h => absurd h (Nat.not_lt_zero _)) (fun t a b => absurd b (Nat.not_lt.mpr a))
    have hks : k < p.size := by rw [P.sz]; omega
    have P' : Pm κ n (bubble p k (k - l)) := ne_of_perm inj (by rw [bubble_size, P.sz]) ((bubble_perm _ _ _).trans P.perm)
    obtain ⟨p', r', b1, b2⟩ := bin_runs inj f (k + 1) _ P' (by omega) (by omega) (fun t h1 h2 => by
      rw [bub_get hks a1, bub_get hks a1]
      repeat' split
      all_goals first
        | (exfalso; omega)
        | (refine a2 _ ?_; omega)
        | (have h3 := a3 (t - 1) (by omega) (by omega); exact h3)
        | exact u.lt' (by omega) (by omega)
        | (subst_vars; exact a2 _ (by omega)))
    exact ⟨p', r.bind r', b1, b2⟩
theorem sort_runs (inj : ∀ i j, i < n → j < n → κ i = κ j → i = j) (h2 : 2 ≤ n) : ∃ p, Runs (oo κ) n (kas_sort n) p ∧ Pm κ n p ∧ UpTo κ p n := by
  have P0 : Pm κ n (List.toArray (List.range n)) := ne_of_perm inj (by simp) (Array.Perm.refl _)
  obtain ⟨m, p, r, a1, a2, P, u⟩ := count_runs inj P0 h2
  unfold kas_sort
  by_cases h : m < n
  · obtain ⟨p', r', P', u'⟩ := bin_runs inj (n - max m 1) (max m 1) p P (by omega) (by omega) (by rw [Nat.max_eq_left a1]; exact u)
    refine ⟨p', r.bind ?_, P', u'⟩
    rw [if_pos h]
    exact r'
  · have : m = n := by omega
    subst this
    refine ⟨p, r.bind ?_, P, u⟩
    rw [if_neg h]
    exact .ret _
end

section
variable {w : World} {A : Around} {E : Value → Shared → Prop} {B h : Heap} {g : Array GenState} {d : Drawn} {t : Nat} {os : OsState} {own own' : Led} {a L la f : Addr} {vs : List Value} {n u : Nat} {κ : Nat → Int} {KP : Heap → Nat → Value → Prop}
/-- keys of a sort: what is known of key i in a base -/
def KeysAre (KP : Heap → Nat → Value → Prop) (B : Heap) (ks : List Value) : Prop := ∀ i k, ks[i]? = some k → KP B i k
theorem get_upd {h : Heap} {a : Addr} {m : Nat} {xs ys : List Value} (fn : Array Value → Array Value) (hf : fn xs.toArray = ys.toArray) (ho : h.get? a = some (seqObj "list" xs.toArray m)) :
    ∃ m', (h.update a (Obj.mapSeq fn)).get? a = some (seqObj "list" ys.toArray m') := ⟨_, by rw [get?_update_seq ho fn, hf]⟩
theorem sort_tail {D kS : Addr} {ks : List Value} {e1 : Nat} {p : Array Nat} {st : SortSt} {P : PySem.Fin → Shared → Prop} (S : St w B h ((kS, dList ks) :: (D, dObj (seqObj "list" #[] e1)) :: own)) (hk : ks.length = vs.length) (h64 : vs.length < 64)
    (hp : p.size = vs.length) (har : arrOf st = p.map (kas_item (ks.toArray.zip vs.toArray))) (hlt : ∀ i ∈ p.toList, i < vs.length) (hfl : failedOf st = none)
    (q : ∀ h', St w B h' ((D, dList (p.toList.map fun i => vs.getD i Value.none)) :: own) → P (.done (.ret .none)) ⟨h', g, d, t, os⟩) :
    wpM w A (ksk_tail D false e1 (.ref kS) st) P E ⟨h, g, d, t, os⟩ := by
  obtain ⟨ok, ek, nk, rfl⟩ := S.mem .head
  obtain ⟨oD, eD, rD⟩ := S.mem (.tail .head)
  have rD : oD = seqObj "list" #[] e1 := rD
  subst rD
  have hout : (arrOf st).map (·.2) = List.toArray (p.toList.map fun i => vs.getD i Value.none) := by
    apply Array.toList_inj.mp
    rw [har, Array.map_map, Array.toList_map]
    refine List.map_congr_left fun i hi => ?_
    have h1 := hlt i hi
    have hz : i < (ks.toArray.zip vs.toArray).size := by rw [Array.size_zip]; simp; omega
    show (kas_item (ks.toArray.zip vs.toArray) i).2 = _
    unfold kas_item
    rw [Array.getD_eq_getD_getElem?]
    rw [Array.getElem?_eq_getElem hz]
    simp [h1]
  have s1 := Heap.SameBut.update h kS (Obj.mapSeq fun _ => (#[] : Array Value))
  obtain ⟨m1, g1⟩ := get_upd (xs := ks) (ys := []) (fun _ => #[]) rfl ek
  have S1 := S.upd (dd' := dList []) .head nc_list s1 ⟨_, g1, m1, rfl⟩
  have eD1 := (S1.mem (.tail .head))
  obtain ⟨oD', eD', rD'⟩ := eD1
  have rD' : oD' = seqObj "list" #[] e1 := rD'
  subst rD'
  have s2 := Heap.SameBut.update (h.update kS (Obj.mapSeq fun _ => (#[] : Array Value))) D (Obj.mapSeq fun _ => List.toArray (p.toList.map fun i => vs.getD i Value.none))
  obtain ⟨m2, g2⟩ := get_upd (xs := []) (ys := p.toList.map fun i => vs.getD i Value.none) (fun _ => List.toArray (p.toList.map fun i => vs.getD i Value.none)) rfl eD'
  have S2 := S1.upd (dd' := dList (p.toList.map fun i => vs.getD i Value.none)) (.tail .head) nc_list s2 ⟨_, g2, m2, rfl⟩
  have hsz : (List.toArray (p.toList.map fun i => vs.getD i Value.none)).size = vs.length := by rw [List.size_toArray, List.length_map, Array.length_toList, hp]
  unfold ksk_tail
  dsimp only
  rw [hout]
  refine wpAny_bind (listUpdate_at ek rfl ?_ (by rw [List.size_toArray, sizeLine_eq]; omega) (Nat.zero_le _))
  refine wpAny_bind (wpAny_letGo ?_)
  refine wpAny_bind (seqEpoch_at eD' rfl ?_)
  refine wpAny_bind (listUpdate_at eD' rfl ?_ (Nat.zero_le _) (by rw [if_neg Bool.false_ne_true]; exact Nat.le_trans (Nat.le_of_eq hsz) (by rw [sizeLine_eq]; omega)))
  rw [hfl]
  simp only [bne_self_eq_false, Bool.false_eq_true, if_false]
  exact wpAny_pure (q _ S2.tl)
/-- the keys are made: the sort proper -/
theorem sort_end {D kS : Addr} {ks : List Value} {e1 : Nat} {T : Value} {P : PySem.Fin → Shared → Prop} (S : St w B h ((kS, dList ks) :: (D, dObj (seqObj "list" #[] e1)) :: own)) (hk : ks.length = vs.length) (h2 : 2 ≤ vs.length) (h64 : vs.length < 64)
    (hK : KeysAre KP B ks) (inj : ∀ i j, i < vs.length → j < vs.length → κ i = κ j → i = j)
    (typ : ∀ i k h', KP B i k → Ext B h' → Looks (model Pr w) h' (typeOf k) T) (hT1 : (T != Value.type "tuple") = true) (hT2 : (T == T) = true)
    (cmpC : ∀ h' i j ki kj, Ext B h' → Tabs h' → KP B i ki → KP B j kj → Does w A (keyLt' oneType' ki kj) h' (fun b _ _ => b = decide (κ i < κ j)))
    (q : ∀ p h' t', St w B h' ((D, dList (p.toList.map fun i => vs.getD i Value.none)) :: own) → Pm κ vs.length p → UpTo κ p vs.length → P (.done (.ret .none)) ⟨h', g, d, t', os⟩) :
    wpM w A (ksk_end D false vs.toArray e1 (.ref kS) ks.toArray) P E ⟨h, g, d, t, os⟩ := by
  obtain ⟨p, r, P', u'⟩ := sort_runs inj h2
  have hz : (ks.toArray.zip vs.toArray).size = vs.length := by rw [Array.size_zip]; simp; omega
  unfold ksk_end
  dsimp only
  rw [if_neg Bool.false_ne_true]
  have hn2 : ¬ vs.toArray.size < 2 := by rw [List.size_toArray]; omega
  rw [if_neg hn2, if_neg hn2]
  refine wpAny_bind (kas_kind (by omega) (fun v hv => ?_) hT1 hT2 ?_)
  · obtain ⟨i, hi, rfl⟩ := List.getElem_of_mem hv
    exact typ i _ h (hK i _ (List.getElem?_eq_getElem hi)) S.keep
  have est : SortSt.mk' oneType' (if false = true then (ks.toArray.zip vs.toArray).reverse else ks.toArray.zip vs.toArray) #[] 7 none = kas_st oneType' (ks.toArray.zip vs.toArray) (List.toArray (List.range vs.length)) := by
    have e := kas_range (ks.toArray.zip vs.toArray)
    rw [hz] at e
    rw [if_neg Bool.false_ne_true]
    show SortSt.mk' oneType' (ks.toArray.zip vs.toArray) #[] 7 none = SortSt.mk' oneType' ((List.toArray (List.range vs.length)).map (kas_item (ks.toArray.zip vs.toArray))) #[] 7 none
    rw [e]
  have ask : (kas_sort vs.length).kasWp (kas_cmp Pr w A oneType' (ks.toArray.zip vs.toArray)) (fun p' s' => p' = p ∧ ∃ h' t', s' = ⟨h', g, d, t', os⟩ ∧ St w B h' ((kS, dList ks) :: (D, dObj (seqObj "list" #[] e1)) :: own)) ⟨h, g, d, t, os⟩ := by
    refine Runs.wp (I := fun s' => ∃ h' t', s' = ⟨h', g, d, t', os⟩ ∧ St w B h' ((kS, dList ks) :: (D, dObj (seqObj "list" #[] e1)) :: own)) ?_ r ⟨_, _, rfl, S⟩ (fun s' z => ⟨rfl, z⟩)
    rintro i j C s hi hj ⟨h', t', rfl, S'⟩ c
    have it : ∀ i, i < vs.length → ∃ k, ks[i]? = some k ∧ (kas_item (ks.toArray.zip vs.toArray) i).1 = k := fun i hi => by
      have hi' : i < ks.length := by omega
      refine ⟨ks[i], List.getElem?_eq_getElem hi', ?_⟩
      unfold kas_item
      rw [Array.getD_eq_getD_getElem?, Array.getElem?_eq_getElem (by omega)]
      simp
    obtain ⟨ki, e1, e2⟩ := it i hi
    obtain ⟨kj, e3, e4⟩ := it j hj
    show wpAny _ _ (keyLt' oneType' _ _) _ _ _
    rw [e2, e4]
    refine cmpC h' i j ki kj S'.keep S'.tb (hK i ki e1) (hK j kj e3) _ _ _ _ _ _ fun b new h2 t2 X2 T2 N2 D2 P2 => ?_
    subst P2
    exact c _ ⟨h2, t2, rfl, (S'.call X2 T2 N2 D2).sublist (List.sublist_append_right _ _)⟩
  have run := kas_runs (E := E) (Q := fun _ st' s' => arrOf st' = p.map (kas_item (ks.toArray.zip vs.toArray)) ∧ failedOf st' = none ∧ ∃ h' t', s' = ⟨h', g, d, t', os⟩ ∧ St w B h' ((kS, dList ks) :: (D, dObj (seqObj "list" #[] e1)) :: own))
    h2 h64 (fun p' st' s' a1 a2 a3 a4 => by obtain ⟨rfl, a4⟩ := a4; exact ⟨a2, a3, a4⟩) ask
  rw [← est] at run
  refine wpAny_bind (wpAny_mono run ?_ fun _ _ e => e)
  rintro ⟨⟨⟩, st'⟩ s' ⟨har, hf, h', t', rfl, S'⟩
  dsimp only
  refine sort_tail S' hk h64 P'.sz har (fun i hi => ?_) hf fun h'' S'' => q p h'' t' S'' P' u'
  have := (Array.perm_iff_toList_perm.mp P'.perm).mem_iff.mp hi
  simpa using this
theorem o_sorted {T : Value} {Q : Value → Shared → Prop} (ao : AOk A n u) (S : St w B h own) (hl : h.IsList la vs.toArray) (h2 : 2 ≤ vs.length) (h64 : vs.length < 64) (inj : ∀ i j, i < vs.length → j < vs.length → κ i = κ j → i = j)
    (mono : ∀ {B B' : Heap} {i v}, Ext B B' → KP B i v → KP B' i v)
    (keyC : ∀ A' h' i v, AOk A' n (u + 2) → Ext B h' → Tabs h' → vs[i]? = some v → Does w A' (call (.ref f) [v] []) h' (fun r new _ => ∀ B', Ext B B' → (∀ p ∈ new, At B' p.1 p.2 ∧ p.1 ∉ Tb) → KP B' i r))
    (typ : ∀ B' i k h', Ext B B' → KP B' i k → Ext B' h' → Looks (model Pr w) h' (typeOf k) T) (hT1 : (T != Value.type "tuple") = true) (hT2 : (T == T) = true)
    (cmpC : ∀ A' B' h' i j ki kj, AOk A' n (u + 2) → Ext B B' → Ext B' h' → Tabs h' → KP B' i ki → KP B' j kj → Does w A' (keyLt' oneType' ki kj) h' (fun b _ _ => b = decide (κ i < κ j)))
    (q : ∀ D p B' h' t', Ext B B' → St w B' h' ((D, dList (p.toList.map fun i => vs.getD i Value.none)) :: own) → Pm κ vs.length p → UpTo κ p vs.length → Q (.ref D) ⟨h', g, d, t', os⟩) :
    wpM w A (call (.builtin "sorted") [.ref la] [(Str.ofString "key", .ref f)]) Q E ⟨h, g, d, t, os⟩ := by
  have hz : vs.length ≤ sizeLine := by rw [sizeLine_eq]; omega
  refine call_function_entry_kw kind_sorted plain_sorted entry_sorted (ksk_s1 _ _) ?_
  unfold Builtin.«sorted»
  refine wpAny_bind (m := checkCount "sorted" 1 1 _) (wpAny_pure ?_)
  refine wpAny_bind (collect_list hl ?_ hz)
  have keep : ∀ b o, h.get? b = some o → ((h.push (seqObj "list" #[] 0)).update h.objs.size (Obj.mapSeq (· ++ vs.toArray))).get? b = some o := fun b o q => by
    have hlt : b < h.objs.size := Heap.lt_size q
    rw [Heap.get?_update_ne _ _ _ _ (Nat.ne_of_lt hlt), Heap.get?_push_ne _ _ _ (Nat.ne_of_lt hlt)]
    exact q
  have S1 := S.keeps keep
  generalize (h.push (seqObj "list" #[] 0)).update h.objs.size (Obj.mapSeq (· ++ vs.toArray)) = h1 at S1 ⊢
  refine wpAny_bind (wpAny_newList ?_ (by exact hz))
  have S2 : St w B (h1.push (seqObj "list" vs.toArray 0)) ((h1.objs.size, dObj (seqObj "list" vs.toArray 0)) :: own) := S1.alloc rfl nc_seq rfl
  show wpAny _ _ _ _ _ ⟨h1.push (seqObj "list" vs.toArray 0), g, d, t, os⟩
  generalize h1.push (seqObj "list" vs.toArray 0) = h2' at S2 ⊢
  generalize h1.objs.size = D at S2 ⊢
  obtain ⟨oD, eD, rD⟩ := S2.mem .head
  have rD : oD = seqObj "list" vs.toArray 0 := rD
  subst rD
  refine wpAny_bind (wpAny_holding (wpAny_call_entry_kw slot_list_sort ⟨_, eD, rfl⟩ entry_list_sort ?body (ksk_l1 _ _)))
  case body =>
    show wpAny (model Pr w) A.in1.in1 (Builtin.«list.sort» ⟨[.ref D], [(Str.ofString "key", .ref f)]⟩) _ _ _
    rw [ksk_t1]
    have ao2 : AOk A.in1.in1 n (u + 2) := ao.in1.in1
    unfold ksk_tree
    refine wpAny_bind (listItems_at eD rfl ?_)
    refine wpAny_bind (listUpdate_at eD rfl ?_ (by rw [List.size_toArray]; exact hz) (Nat.zero_le _))
    have s1 := Heap.SameBut.update h2' D (Obj.mapSeq fun _ => (#[] : Array Value))
    obtain ⟨e1, g1⟩ := get_upd (xs := vs) (ys := []) (fun _ => #[]) rfl eD
    have S3 := S2.upd (dd' := dObj (seqObj "list" #[] e1)) .head nc_seq s1 ⟨_, g1, rfl⟩
    refine wpAny_bind (seqEpoch_at g1 rfl ?_)
    refine wpAny_bind (wpAny_newTuple ?_ (by exact hz))
    have S4 := S3.alloc (o := { cls := .type "tuple", data := .seq vs.toArray 0 }) (dd := dTup vs) ⟨0, rfl⟩ nc_tup rfl
    refine wpAny_bind (wpAny_newList ?_ (Nat.zero_le _))
    have S5 := S4.tl
    have S6 := (S4.alloc (o := { cls := .type "list", data := .seq #[] 0 }) (dd := dList []) ⟨0, rfl⟩ nc_list rfl)
    refine wpAny_holding ?_
    unfold ksk_rest
    refine wpAny_bind (wpAny_rule ?_)
    first
      | rw [List.forIn_toArray]
      | (rw [← Array.forIn_toList]; simp only [List.toList_toArray])
      | rw [← Array.forIn_toList]
    generalize (h2'.update D (Obj.mapSeq fun _ => (#[] : Array Value))).push { cls := .type "tuple", data := .seq vs.toArray 0 } = h4 at S6 ⊢
    have S7 : St w B (h4.push { cls := .type "list", data := .seq #[] 0 }) ((h4.objs.size, dList []) :: (D, dObj (seqObj "list" #[] e1)) :: own) := S6.sublist (.cons_cons _ (.cons _ (List.Sublist.refl _)))
    refine wpAny_bind (ksk_fold (fun i s' => ∃ h' t' B' ks, s' = ⟨h', g, d, t', os⟩ ∧ Ext B B' ∧ St w B' h' ((h4.objs.size, dList ks) :: (D, dObj (seqObj "list" #[] e1)) :: own) ∧ ks.length = i ∧ KeysAre KP B' ks) vs 0 _
      ⟨_, _, B, [], rfl, ExtT.refl _ _, S7, rfl, fun i k hk => by simp at hk⟩ ?step ?done)
    case step =>
      rintro j x s' hx ⟨h', t', B', ks, rfl, X, S', hk, hK⟩
      simp only [Nat.zero_add] at hk ⊢
      have hj : j < vs.length := (List.getElem?_eq_some_iff.mp hx).1
      refine wpAny_bind (wpAny_attempt (keyC _ h' j x ao2 (X.trans S'.keep) S'.tb hx _ _ _ _ _ _ fun r new h'' t'' X2 T2 N2 D2 P2 => ?_))
      have S8 := S'.call X2 T2 N2 D2
      obtain ⟨B2, Y, F2, S9⟩ := S8.frz (List.Perm.refl _)
      have hkp := P2 B2 (X.trans Y) F2
      obtain ⟨ok, ek, nk, rfl⟩ := S9.mem .head
      have s2 := Heap.SameBut.update h'' h4.objs.size (Obj.mapSeq (·.push r))
      obtain ⟨m2, g2⟩ := get_upd (xs := ks) (ys := ks ++ [r]) (·.push r) (by simp) ek
      have S10 := S9.upd (dd' := dList (ks ++ [r])) .head nc_list s2 ⟨_, g2, m2, rfl⟩
      refine wpAny_bind (listUpdate_at ek rfl ?_ (by rw [List.size_toArray]; omega) (by rw [Array.size_push, List.size_toArray]; omega))
      refine wpAny_pure ⟨rfl, _, _, B2, ks ++ [r], rfl, X.trans Y, S10, by rw [List.length_append, hk]; rfl, fun i k hi => ?_⟩
      rw [List.getElem?_append] at hi
      split at hi
      · exact mono Y (hK i k hi)
      · rename_i hge
        have : i = j := by
          have := (List.getElem?_eq_some_iff.mp hi).1
          simp at this; omega
        subst this
        rw [hk, Nat.sub_self] at hi
        simp at hi
        subst hi
        exact hkp
    case done =>
      rintro s' ⟨h', t', B', ks, rfl, X, S', hk, hK⟩
      rw [Nat.zero_add] at hk
      obtain ⟨ok, ek, nk, rfl⟩ := S'.mem .head
      dsimp only
      refine wpAny_bind (listItems_at ek rfl ?_)
      refine sort_end (KP := KP) S' hk h2 h64 hK inj (fun i k h'' z x => typ B' i k h'' X z x) hT1 hT2 (fun h'' i j ki kj x T z1 z2 => cmpC _ B' h'' i j ki kj ao2 X x T z1 z2) fun p h'' t'' S'' P u' => ?_
      exact ⟨_, rfl, wpAny_pure ⟨_, rfl, q D p B' h'' t'' X S'' P u'⟩⟩
end

def NoTb (a : Addr) : Prop := a ∉ Tb
/-- a class made by cmp_to_key over c -/
def KAll (h : Heap) (c k : Addr) : Prop := ∃ D, KAt NoTb h c k D
theorem KAll.ext {h h' : Heap} {c k : Addr} (x : KAll h c k) (X : Ext h h') : KAll h' c k := x.elim fun D z => ⟨D, z.to (fun _ f => f) fun a o f e => X a o e f⟩
theorem big {P : Params} {h : Heap} (K : KIn P h) : 97 ≤ h.objs.size := Nat.le_of_lt (Nat.lt_of_le_of_lt (by decide) (Heap.lt_size (K 98 _ rfl (by decide))))
/-- the start of a run of the engine -/
@[reducible] def cx (w : World) (T : List Nat) (h : Heap) (g : Array GenState) (d : Drawn) (os : OsState) : Cx := ⟨Pr, w, T, h, g, d, os, h.objs.size - 97⟩
theorem ad97 {w : World} {T : List Nat} {h : Heap} {g : Array GenState} {d : Drawn} {os : OsState} (hb : 97 ≤ h.objs.size) : h.objs.size = ad (cx w T h g d os) 97 := (Nat.sub_add_cancel hb).symm
theorem own0 {P : Params} {w : World} {h : Heap} {g : Array GenState} {d : Drawn} {os : OsState} (K : KIn P h) : Own3 (cx w [] h g d os) [] [] 97 h :=
  ⟨fun _ _ e _ => e, fun _ _ e => (nomatch e), fun _ _ e => (nomatch e), fun _ _ e => (nomatch e), fun _ _ e => (nomatch e), fun _ e => (nomatch e), ad97 (big K), ad97 (big K)⟩
/-- an instance of the class, holding an object -/
def IsInst (h : Heap) (k x va : Addr) : Prop := ∃ dx, x ∉ Tb ∧ dx ∉ Tb ∧ h.get? x = some (kInst k dx va) ∧ h.get? dx = some kEmp
theorem IsInst.ext {h h' : Heap} {k x va : Addr} (z : IsInst h k x va) (X : Ext h h') : IsInst h' k x va := z.elim fun dx r => ⟨dx, r.1, r.2.1, X _ _ r.2.2.1 r.1, X _ _ r.2.2.2 r.2.1⟩
theorem AOk.ak {A : Around} {n u : Nat} (a : AOk A n u) (hn : n ≤ 400) (hu : u ≤ 400) : AK A 400 400 := ⟨a.hd, Nat.le_trans a.dp hn, Nat.le_trans a.un hu⟩
theorem s_inst {w : World} {A : Around} {h : Heap} {c k va : Addr} {n u : Nat} (a : AOk A n u) (hn : n ≤ 400) (hu : u ≤ 400) (K : KIn w.params h) (T : Tabs h) (hk : KAll h c k) :
    Does w A (call (.ref k) [.ref va] []) h fun r new _ => ∃ x dx, r = .ref x ∧ new = [(x, dObj (kInst k dx va)), (dx, dObj kEmp)] := by
  intro Q E g d t os q
  obtain ⟨D, H⟩ := hk
  obtain ⟨cc, cd, c0, ct, cr, csl, ec⟩ := code_ex H.ec0
  refine inst_run (X := cx w [] h g d os) (a.ak hn hu) rfl K H ec (fun h' t' own i j c' O ne e1 e2 => ?_) h (own0 K)
  have kp : ∀ b o, h.get? b = some o → h'.get? b = some o := fun b o e => O.keep b o e List.not_mem_nil
  have tl : ∀ a, h.get? a = none → a ∉ Tb := fun a e hm => tb_lt (P := w.params) T _ hm e
  have f1 := O.new i (Nat.ble_eq_true_of_le (O.lt _ _ e1).1)
  have f2 := O.new j (Nat.ble_eq_true_of_le (O.lt _ _ e2).1)
  exact q _ [(_, dObj (kInst k _ va)), (_, dObj kEmp)] h' t' (ExtT.all kp) (tabs_keeps T kp) (fun p hp => by
    rcases List.mem_cons.mp hp with rfl | hp
    · exact ⟨⟨_, O.cell _ _ e1, rfl⟩, f1, tl _ f1, fun o vs q t h e => by cases h; cases e⟩
    · rw [List.mem_singleton.mp hp]
      exact ⟨⟨_, O.cell _ _ e2, rfl⟩, f2, tl _ f2, nc_dict⟩) (List.nodup_cons.mpr ⟨fun hm => Nat.ne_of_beq_eq_false ne (ad_inj (List.mem_singleton.mp hm)), by simp⟩) ⟨_, _, rfl, rfl⟩
theorem o_slot {w : World} {A : Around} {E : Value → Shared → Prop} {B h : Heap} {g : Array GenState} {d : Drawn} {t : Nat} {os : OsState} {own : Led} {c k x va : Addr} {Q : Value → Shared → Prop} (S : St w B h own) (hk : KAll B c k) (hx : IsInst B k x va)
    (q : ∀ h' t', St w B h' own → Q (.ref va) ⟨h', g, d, t', os⟩) : wpM w A (getAttr (.ref x) "obj" true) Q E ⟨h, g, d, t, os⟩ := by
  obtain ⟨D, H⟩ := hk.ext S.keep
  obtain ⟨dx, n1, n2, e1, e2⟩ := hx.ext S.keep
  exact slot_run (X := cx w [] h g d os) rfl H e1 (fun h' t' c' O => q h' t' (S.keeps fun b o e => O.keep b o e List.not_mem_nil)) h (own0 S.kinh)
theorem kns_keys (D : KD) : keysOk (objEs (kNs D)) = true := rfl
theorem lt_special {h : Heap} {c k x va : Addr} {D : KD} (H : KAt NoTb h c k D) (hx : IsInst h k x va) : h.OwnSpecial x k D.f1 "object" "__lt__" := by
  obtain ⟨dx, n1, n2, e1, e2⟩ := hx
  refine ⟨_, _, _, _, D.n, _, [.type "object"], _, _, _, _, _, _, _, _, _, _, _, _, fun nm => nsFind _ nm, some (.builtin "object.__lt__"), e1, rfl, H.ek, ⟨_, _, _, H.en, rfl, strKeys_of (kns_keys D), fun _ => rfl⟩, rfl, H.ef1, rfl, ?_, ?_⟩
  · kernel_rfl
  · rw [typeLookup_type, builtinLookup_eq_fast]; kernel_rfl

theorem s_ltcall {w : World} {A : Around} {h : Heap} {k x y va vb : Addr} {D : KD} {b₁ o₁ c₁ b₂ o₂ c₂ : Int} {n u : Nat} (a : AOk A n u) (hn : n + 2 ≤ 400) (K : KIn w.params h) (T : Tabs h) (H : KAt NoTb h 65 k D)
    (hx : IsInst h k x va) (hy : IsInst h k y vb) (W₁ : IsWork h (.ref va) b₁ o₁ c₁) (W₂ : IsWork h (.ref vb) b₂ o₂ c₂) :
    Does w A (call (.ref D.f1) [.ref x, .ref y] []) h fun r new _ => new = [] ∧ r = .bool (decide (o₁ - o₂ < 0)) := by
  intro Q E g d t os q
  have hk : KAll h 65 k := ⟨D, H⟩
  have hc := H.ece
  have n2 := H.fce
  have hrl : (400 : Nat) < recursionLimit := by decide
  have hn0 : Nat.blt n recursionLimit = true := Nat.ble_eq_true_of_le (by omega)
  have hn1 : Nat.blt (n + 1) recursionLimit = true := Nat.ble_eq_true_of_le (by omega)
  refine enter (l := [("other", .ref y), ("self", .ref x)]) a hn0 ⟨_, H.ef1, rfl⟩ K T H.ec1 (binds := [("self", .ref x), ("other", .ref y)]) (BindsTo.of_eq rfl) fun L h₁ t₁ A' E' a' S => ?_
  refine wpAny_execs_cons ?_
  repeat' wtm_at "mine w5"
  refine o_slot (va := va) S hk hx fun h2 t2 S => ?_
  repeat' wtm_at "mine w5"
  refine o_slot (va := vb) S hk hy fun h3 t3 S => ?_
  repeat' wtm_at "mine w5"
  refine ⟨let ⟨_, hf⟩ := fa65 S.kinh; ⟨_, hf⟩, later a' hn1 S.kinh S.tb (W₁.ext S.keep) (W₂.ext S.keep) _ _ _ _ _ _ fun v new h4 t4 X4 T4 N4 D4 P4 => ?_⟩
  obtain ⟨rfl, t5, rfl⟩ := P4
  have S4 := S.call X4 T4 N4 D4
  clear S
  have S := S4
  simp only [List.nil_append] at S
  repeat' wtm_at "mine w5"
  exact backS (new := []) (ExtT.refl _ _) S q ⟨rfl, rfl⟩ (List.nil_sublist _)
theorem s_lt {w : World} {A : Around} {h : Heap} {k x y va vb : Addr} {b₁ o₁ c₁ b₂ o₂ c₂ : Int} {n u : Nat} (a : AOk A n u) (hn : n + 2 ≤ 400) (hu : u + 3 ≤ 400) (K : KIn w.params h) (T : Tabs h) (hk : KAll h 65 k)
    (hx : IsInst h k x va) (hy : IsInst h k y vb) (W₁ : IsWork h (.ref va) b₁ o₁ c₁) (W₂ : IsWork h (.ref vb) b₂ o₂ c₂) :
    Does w A (keyLt' oneType' (.ref x) (.ref y)) h fun b _ _ => b = decide (o₁ < o₂) := by
  intro Q E g d t os q
  obtain ⟨D, H⟩ := hk
  have hcl : (400 : Nat) < cLine := by decide
  rw [keyLt'_oneType, oneLt'_eq]
  simp only [if_true]
  refine wpAny_bind (wpAny_cRoomFor (by have := a.un; omega) ?_)
  refine wpAny_bind (wpAny_callSpecialIfBound?_own (lt_special H hx) ?_)
  refine s_ltcall a hn K T H hx hy W₁ W₂ _ _ _ _ _ _ fun v new h4 t4 X4 T4 N4 D4 P4 => ?_
  obtain ⟨rfl, rfl⟩ := P4
  have e : decide (o₁ - o₂ < 0) = decide (o₁ < o₂) := by
    by_cases z : o₁ < o₂
    · rw [decide_eq_true z, decide_eq_true (by omega)]
    · rw [decide_eq_false z, decide_eq_false (by omega)]
  rw [e]
  exact wpAny_truthy_bool (q _ [] h4 t4 X4 T4 N4 D4 rfl)

theorem own16 {P : Params} {w : World} {h : Heap} {g : Array GenState} {d : Drawn} {os : OsState} (K : KIn P h) (g16 : h.get? 16 = some emptyTab) : Own3 (cx w [16] h g d os) [(16, emptyTab)] [] 97 h := by
  have one : ∀ a o, fd [(16, emptyTab)] a = some o → a = 16 ∧ o = emptyTab := fun a o e => by
    rw [fd_cons] at e
    split at e
    · rename_i hk; cases e; exact ⟨hk.symm, rfl⟩
    · cases e
  refine ⟨fun _ _ e _ => e, fun a o e => ?_, fun a o e => ?_, fun _ _ e => (nomatch e), fun _ _ e => (nomatch e), fun b hb => ?_, ad97 (big K), ad97 (big K)⟩
  · obtain ⟨rfl, rfl⟩ := one a o e; exact g16
  · obtain ⟨rfl, rfl⟩ := one a o e; exact .head _
  · rw [List.mem_singleton.mp hb]; exact Heap.lt_size g16
/-- cmp_to_key, called with its table empty -/
theorem o_cmp {w : World} {A : Around} {E : Value → Shared → Prop} {B h : Heap} {g : Array GenState} {d : Drawn} {t : Nat} {os : OsState} {own : Led} {c : Addr} {n u : Nat} {Q : Value → Shared → Prop} (a : AOk A n u) (hn : n ≤ 400) (hu : u ≤ 400) (S : St w B h own) (h16 : B.get? 16 = some emptyTab)
    (q : ∀ h' t' B' k, (∀ b o, B.get? b = some o → b ∉ KTb → B'.get? b = some o) → St w B' h' own → KAll B' c k → (∃ vs, B'.get? 16 = some { cls := .none, data := .fields vs }) → Q (.ref k) ⟨h', g, d, t', os⟩) :
    wpM w A (call (.ref 21) [.ref c] []) Q E ⟨h, g, d, t, os⟩ := by
  have g16 : h.get? 16 = some emptyTab := S.keep 16 _ h16 (by decide)
  refine cmp_run (X := cx w [16] h g d os) (a.ak hn hu) rfl S.kinh (fun h' t' k D kp hk e16 => ?_) h (own16 S.kinh g16)
  obtain ⟨vs, e16⟩ := e16
  have n16 : ∀ p ∈ own, p.1 ≠ 16 := fun p hp e => by have := (S.nw p hp).2.1; rw [e, h16] at this; cases this
  have hS : ∀ b o, B.get? b = some o → b ≠ 16 → (hideAll B [16]).get? b = some o := fun b o e ne => hideAll_get _ e (fun hm => ne (List.mem_singleton.mp hm))
  have S1 : St w (hideAll B [16]) h ((16, dObj emptyTab) :: own) := by
    refine ⟨fun b o e q => S.keep b o (of_hideAll _ e) q, fun p hp => ?_, ?_, S.tb, fun a o e t => hS a o (S.kin a o e t) fun e16 => t (e16 ▸ .head _)⟩
    · rcases List.mem_cons.mp hp with rfl | hp
      · exact ⟨⟨_, g16, rfl⟩, hideAll_none _ (.head _), by show (16 : Nat) ∉ Tb; decide, fun o vs q t h e => by cases h; cases e; simp⟩
      · refine ⟨(S.nw p hp).1, ?_, (S.nw p hp).2.2⟩
        cases e : (hideAll B [16]).get? p.1 with
        | none => rfl
        | some o => have := of_hideAll _ e; rw [(S.nw p hp).2.1] at this; cases this
    · rw [List.map_cons, List.nodup_cons]
      refine ⟨fun hm => ?_, S.nd⟩
      obtain ⟨p, hp, e⟩ := List.mem_map.mp hm
      exact n16 p hp e
  have S2 : St w (hideAll B [16]) h' own := S1.lose fun b o ne e => kp b o e fun hm => ne (List.mem_singleton.mp hm)
  have S3 : St w (hideAll B [16]) h' ([] ++ own) := S2
  obtain ⟨B', X1, _, S4, all⟩ := S3.freeze
  have ko : ∀ p ∈ own, h.get? p.1 ≠ none := fun p hp e => by obtain ⟨o, e2, _⟩ := (S.nw p hp).1; rw [e] at e2; cases e2
  refine q h' t' B' k (fun b o e hb => X1 b o (hS b o e fun e16 => hb (e16 ▸ .head _)) (ktb hb)) S4 ⟨D, hk.to (fun a f => fun hm => tb_lt (P := w.params) S.tb a hm f) fun a o f e => all a o e (fun hm => ?_) fun hm => tb_lt (P := w.params) S.tb a hm f⟩ ⟨vs, all 16 _ e16 (fun hm => ?_) (by decide)⟩
  · obtain ⟨p, hp, e⟩ := List.mem_map.mp hm
    exact ko p hp (e ▸ f)
  · obtain ⟨p, hp, e⟩ := List.mem_map.mp hm
    exact n16 p hp e

section
open PySem.Spec PyProof.V PySem.SeqAt
def wkD (k : K3) : PyData := .tuple [.int k.1, .int k.2.1, .int k.2.2]
theorem reads_works {h : Heap} {vs : List Value} {ks : List K3} (x : Are (IsW h) vs ks) : ∃ as, ReadsAll h vs (ks.map wkD) as := by
  induction x with
  | nil => exact ⟨_, .nil⟩
  | cons hw r ih =>
    obtain ⟨as, ih⟩ := ih
    obtain ⟨a, t1, t2, t3, rfl, n, o, ho, nn, rfl⟩ := hw
    exact ⟨_, ReadsAll.cons (Reads.tuple ho rfl rfl (ReadsAll.cons (Reads.int _ t1) (ReadsAll.cons (Reads.int _ t2) (ReadsAll.cons (Reads.int _ t3) .nil)))) ih⟩
theorem wk_lay : ∀ ks : List K3, PyData.canLayAll0 (ks.map wkD) = true
  | [] => by simp [PyData.canLayAll0]
  | k :: r => by simp [PyData.canLayAll0, PyData.canLay0, wkD, wk_lay r]
theorem wk_depth : ∀ ks : List K3, PyData.depthAll (ks.map wkD) ≤ 3
  | [] => by simp [PyData.depthAll]
  | k :: r => by
    have := wk_depth r
    simp only [List.map_cons, PyData.depthAll, wkD, PyData.depth]
    omega
theorem wk_shaped (ks : List K3) : shaped (.list (ks.map wkD)) = true := by
  have h1 := wk_depth ks
  have h2 : PyData.depth (.list (ks.map wkD)) ≤ 64 := by simp only [PyData.depth]; omega
  show (PyData.canLay0 (.list (ks.map wkD)) && decide (PyData.depth (.list (ks.map wkD)) ≤ 64)) = true
  rw [Bool.and_eq_true]
  exact ⟨by simp only [PyData.canLay0]; exact wk_lay ks, decide_eq_true h2⟩
theorem wk_mix : ∀ ks : List K3, noMixAll (ks.map wkD) (ks.map wkD) = true
  | [] => by simp [noMixAll]
  | k :: r => by simp [noMixAll, noMix, wkD, wk_mix r]
theorem wk_same : ∀ ks : List K3, PySem.Spec.sameAll (ks.map wkD) (ks.map wkD) = true
  | [] => by simp [PySem.Spec.sameAll]
  | k :: r => by simp [PySem.Spec.sameAll, PySem.Spec.same, wkD, wk_same r]
section
variable {w : World} {A : Around} {E : Value → Shared → Prop} {h : Heap} {g : Array GenState} {d : Drawn} {t : Nat} {os : OsState} {a b : Addr} {vs us : List Value} {Q : Value → Shared → Prop}
theorem o_neWorks {ks : List K3} (hl : At h a (dList vs)) (hb : At h b (dList us)) (hv : Are (IsW h) vs ks) (hu' : Are (IsW h) us ks) (hu : A.units + 64 < cLine) (q : Q (.bool false) ⟨h, g, d, t, os⟩) :
    wpM w A (compareOp .NotEq (.ref a) (.ref b)) Q E ⟨h, g, d, t, os⟩ := by
  obtain ⟨as, r1⟩ := reads_works hv
  obtain ⟨bs, r2⟩ := reads_works hu'
  obtain ⟨o1, e1, n1, rfl⟩ := hl
  obtain ⟨o2, e2, n2, rfl⟩ := hb
  refine ne_dataH_same (s := ⟨h, g, d, t, os⟩) (Reads.list e1 rfl rfl (by simpa using r1)) (Reads.list e2 rfl rfl (by simpa using r2)) (wk_shaped ks) (wk_shaped ks) hu (by simp only [noMix]; exact wk_mix ks) ?_
  simp only [PySem.Spec.same]
  rw [wk_same]
  exact q
theorem o_eqInts {ns ms : List Int} (hl : At h a (dList vs)) (hb : At h b (dList us)) (hi : IntsAre vs ns) (hi' : IntsAre us ms) (hu : A.units + 64 < cLine) (q : Q (.bool (decide (ns = ms))) ⟨h, g, d, t, os⟩) :
    wpM w A (compareOp .Eq (.ref a) (.ref b)) Q E ⟨h, g, d, t, os⟩ := eq_intsK (s := ⟨h, g, d, t, os⟩) hl.list hi hb.list hi' hu q
end

end
/-- the ends rise, none begins behind its end -/
def Rise (ks : List K3) : Prop := ks.Pairwise (fun k k' => k.2.1 < k'.2.1) ∧ ∀ k ∈ ks, k.1 ≤ k.2.1
theorem chs_snoc (ks : List K3) (k : K3) : chs (ks ++ [k]) = chs ks ++ ((chs ks).filter (chOk k)).map (chAdd k) := by
  simp only [chs, List.foldl_append, List.foldl_cons, List.foldl_nil, chStep]
theorem take_snoc {ks : List K3} {i : Nat} {k : K3} (hk : ks[i]? = some k) : ks.take (i + 1) = ks.take i ++ [k] := by rw [List.take_add_one, hk]; rfl
theorem chs_sub (ks : List K3) : ∀ c ∈ chs ks, ∀ x ∈ c.2, x ∈ ks := by
  have : ∀ (r : List K3) (cs : List Ch) (P : K3 → Prop), (∀ c ∈ cs, ∀ x ∈ c.2, P x) → ∀ c ∈ r.foldl chStep cs, ∀ x ∈ c.2, P x ∨ x ∈ r := by
    intro r
    induction r with
    | nil => intro cs P h c hc x hx; exact .inl (h c hc x hx)
    | cons k r ih =>
      intro cs P h c hc x hx
      rcases ih (chStep cs k) (fun x => P x ∨ x = k) (fun c hc x hx => by
        unfold chStep at hc
        rcases List.mem_append.mp hc with hc | hc
        · exact .inl (h c hc x hx)
        · obtain ⟨p, hp, rfl⟩ := List.mem_map.mp hc
          rcases List.mem_append.mp hx with hx | hx
          · exact .inl (h p (List.mem_filter.mp hp).1 x hx)
          · exact .inr (List.mem_singleton.mp hx)) c hc x hx with (h | h) | h
      · exact .inl h
      · exact .inr (h ▸ .head _)
      · exact .inr (.tail _ h)
  intro c hc x hx
  rcases this ks [(0, [])] (fun _ => False) (by simp) c hc x hx with h | h
  · exact h.elim
  · exact h
theorem Rise.lt {ks : List K3} (g : Rise ks) {i j : Nat} {k k' : K3} (hij : i < j) (hi : ks[i]? = some k) (hj : ks[j]? = some k') : k.2.1 < k'.2.1 := by
  obtain ⟨li, rfl⟩ := List.getElem?_eq_some_iff.mp hi
  obtain ⟨lj, rfl⟩ := List.getElem?_eq_some_iff.mp hj
  exact List.pairwise_iff_getElem.mp g.1 i j li lj hij
theorem mem_take {ks : List K3} {i : Nat} {x : K3} (h : x ∈ ks.take i) : ∃ j, j < i ∧ ks[j]? = some x := by
  obtain ⟨j, hj, rfl⟩ := List.getElem_of_mem h
  have hj' := hj
  rw [List.length_take] at hj'
  exact ⟨j, by omega, by rw [List.getElem_take]; exact List.getElem?_eq_getElem _⟩
theorem fits_cond {ks : List K3} (g : Rise ks) {i : Nat} {k x : K3} (hk : ks[i]? = some k) (hx : x ∈ ks.take i) : fits x.1 x.2.1 k.1 k.2.1 = condC k.1 x := by
  obtain ⟨j, hj, hjx⟩ := mem_take hx
  have h1 := g.lt hj hjx hk
  have h2 := g.2 x (List.mem_of_getElem? hjx)
  unfold fits condC
  by_cases a : x.1 < k.1 <;> by_cases b : x.2.1 ≤ k.1 <;> by_cases c : k.1 < x.1 <;> by_cases e : k.2.1 ≤ x.1 <;> simp [a, b, c, e] <;> omega
theorem rvn_prop (ks : List K3) (col : Int) : (∀ j x, j < rvn ks col → ks[j]? = some x → condC col x = true) ∧ (∀ x, ks[rvn ks col]? = some x → condC col x = false) := by
  unfold rvn
  induction ks with
  | nil => exact ⟨fun j x h => by simp at h, fun x h => by simp at h⟩
  | cons k r ih =>
    by_cases h : condC col k = true
    · rw [List.takeWhile_cons_of_pos h, List.length_cons]
      refine ⟨fun j x hj hx => ?_, fun x hx => ih.2 x (by simpa using hx)⟩
      cases j with
      | zero => simp at hx; subst hx; exact h
      | succ j => exact ih.1 j x (by omega) (by simpa using hx)
    · rw [List.takeWhile_cons_of_neg h]
      refine ⟨fun j x hj => by simp at hj, fun x hx => ?_⟩
      simp at hx; subst hx; simpa using h
theorem cond_down {ks : List K3} (g : Rise ks) {col : Int} {j j' : Nat} {x x' : K3} (hj : j ≤ j') (hx : ks[j]? = some x) (hx' : ks[j']? = some x') (h : condC col x' = true) : condC col x = true := by
  rcases Nat.eq_or_lt_of_le hj with rfl | hj
  · rw [hx] at hx'; cases hx'; exact h
  · have h1 := g.lt hj hx hx'
    have h2 := g.2 x (List.mem_of_getElem? hx)
    have h3 := g.2 x' (List.mem_of_getElem? hx')
    unfold condC at h ⊢
    simp only [Bool.and_eq_true, decide_eq_true_eq] at h ⊢
    omega
/-- the choices that a work goes with are those of the works ahead of its begin -/
theorem chs_ok {ks : List K3} (g : Rise ks) {i : Nat} {k : K3} (hk : ks[i]? = some k) : (chs (ks.take i)).filter (chOk k) = chs (ks.take (rvn (ks.take i) k.1)) := by
  have hlen : (ks.take i).length = i := by rw [List.length_take, Nat.min_eq_left (Nat.le_of_lt (List.getElem?_eq_some_iff.mp hk).1)]
  have hp : rvn (ks.take i) k.1 ≤ i := by
    have : rvn (ks.take i) k.1 ≤ (ks.take i).length := (List.takeWhile_sublist _).length_le
    omega
  obtain ⟨c1, c2⟩ := rvn_prop (ks.take i) k.1
  generalize rvn (ks.take i) k.1 = p at hp c1 c2
  have tk : ∀ j, j < i → (ks.take i)[j]? = ks[j]? := fun j h => by rw [List.getElem?_take, if_pos h]
  have e1 : (chs (ks.take i)).filter (chOk k) = (chs (ks.take i)).filter (fun c => c.2.all (condC k.1)) := by
    refine List.filter_congr fun c hc => ?_
    unfold chOk
    rw [Bool.eq_iff_iff, List.all_eq_true, List.all_eq_true]
    constructor <;> intro h x hx <;> have h1 := h x hx <;> have h2 := fits_cond g hk (chs_sub _ c hc x hx)
    · rw [← h2]; exact h1
    · rw [h2]; exact h1
  rw [e1]
  have go : ∀ d, p + d ≤ i → (chs (ks.take (p + d))).filter (fun c => c.2.all (condC k.1)) = chs (ks.take p) := by
    intro d
    induction d with
    | zero =>
      intro _
      rw [Nat.add_zero]
      refine List.filter_eq_self.mpr fun c hc => ?_
      rw [List.all_eq_true]
      intro x hx
      obtain ⟨j, hj, hjx⟩ := mem_take (chs_sub _ c hc x hx)
      exact c1 j x hj (by rw [tk j (by omega)]; exact hjx)
    | succ d ih =>
      intro hd
      have hlt : p + d < ks.length := by have := (List.getElem?_eq_some_iff.mp hk).1; omega
      have hx : ks[p + d]? = some ks[p + d] := List.getElem?_eq_getElem hlt
      have hno : condC k.1 ks[p + d] = false := by
        cases hc : condC k.1 ks[p + d] with
        | false => rfl
        | true =>
          have hpl : p < ks.length := by omega
          have := cond_down g (Nat.le_add_right p d) (List.getElem?_eq_getElem hpl) hx hc
          rw [c2 ks[p] (by rw [tk p (by omega)]; exact List.getElem?_eq_getElem hpl)] at this
          cases this
      rw [show p + (d + 1) = (p + d) + 1 by omega, take_snoc hx, chs_snoc, List.filter_append, ih (by omega)]
      have hnil : (((chs (ks.take (p + d))).filter (chOk ks[p + d])).map (chAdd ks[p + d])).filter (fun c => c.2.all (condC k.1)) = [] := by
        refine List.filter_eq_nil_iff.mpr fun c hc => ?_
        obtain ⟨q, hq, rfl⟩ := List.mem_map.mp hc
        simp only [chAdd, List.all_append, List.all_cons, hno, Bool.false_and, Bool.and_false, Bool.false_eq_true, not_false_eq_true]
      rw [hnil, List.append_nil]
  have h := go (i - p) (by omega)
  rw [Nat.add_sub_cancel' hp] at h
  exact h
def Mx (l : List Ch) (M : Int) : Prop := M ∈ l.map (·.1) ∧ ∀ a ∈ l.map (·.1), a ≤ M
theorem Mx.eq {l : List Ch} {M N : Int} (a : Mx l M) (b : Mx l N) : M = N := Int.le_antisymm (b.2 _ a.1) (a.2 _ b.1)
/-- the greatest worths by the step -/
theorem due_step {ks : List K3} {ns : List Int} (g : Rise ks) (d : Due ns ks) {i : Nat} {k : K3} (hk : ks[i]? = some k) :
    ns.getD (i + 1) 0 = max (ns.getD i 0) (ns.getD (rvn (ks.take i) k.1) 0 + k.2.2) := by
  have hi := (List.getElem?_eq_some_iff.mp hk).1
  have hlen : (ks.take i).length = i := by rw [List.length_take, Nat.min_eq_left (Nat.le_of_lt hi)]
  have hp : rvn (ks.take i) k.1 ≤ i := by
    have : rvn (ks.take i) k.1 ≤ (ks.take i).length := (List.takeWhile_sublist _).length_le
    omega
  have at_ : ∀ j, j ≤ ks.length → Mx (chs (ks.take j)) (ns.getD j 0) := fun j hj => by
    obtain ⟨M, e1, e2, e3⟩ := d.2 j hj
    have : ns.getD j 0 = M := by rw [List.getD_eq_getElem?_getD, e1]; rfl
    rw [this]; exact ⟨e2, e3⟩
  have m1 := at_ (i + 1) (by omega)
  have m0 := at_ i (by omega)
  have mp := at_ (rvn (ks.take i) k.1) (by omega)
  have hc := chs_ok g hk
  have e : chs (ks.take (i + 1)) = chs (ks.take i) ++ (chs (ks.take (rvn (ks.take i) k.1))).map (chAdd k) := by rw [take_snoc hk, chs_snoc, hc]
  refine m1.eq ⟨?_, fun a ha => ?_⟩
  · rw [e, List.map_append, List.mem_append]
    rcases Int.le_total (ns.getD (rvn (ks.take i) k.1) 0 + k.2.2) (ns.getD i 0) with h | h
    · rw [Int.max_eq_left h]; exact .inl m0.1
    · rw [Int.max_eq_right h]
      refine .inr ?_
      obtain ⟨c, hc, e⟩ := List.mem_map.mp mp.1
      rw [List.map_map]
      exact List.mem_map.mpr ⟨c, hc, by simp only [Function.comp, chAdd]; rw [e]⟩
  · rw [e, List.map_append, List.mem_append] at ha
    rcases ha with ha | ha
    · have := m0.2 a ha; omega
    · rw [List.map_map] at ha
      obtain ⟨c, hc, rfl⟩ := List.mem_map.mp ha
      have := mp.2 c.1 (List.mem_map.mpr ⟨c, hc, rfl⟩)
      simp only [Function.comp, chAdd]
      omega

theorem perm_eq {κ : Nat → Int} : ∀ {l1 l2 : List Nat}, l1.Perm l2 → l1.Pairwise (fun i j => κ i < κ j) → l2.Pairwise (fun i j => κ i < κ j) → l1 = l2
  | [], l2, p, _, _ => by rw [List.nil_perm.mp p]
  | a :: l1, l2, p, h1, h2 => by
    cases l2 with
    | nil => have := p.length_eq; simp at this
    | cons b l2 =>
      have hab : a = b := by
        by_cases e : a = b
        · exact e
        · have ha : a ∈ l2 := by
            rcases List.mem_cons.mp (p.mem_iff.mp (.head _)) with h | h
            · exact absurd h e
            · exact h
          have hb : b ∈ l1 := by
            rcases List.mem_cons.mp (p.mem_iff.mpr (.head _)) with h | h
            · exact absurd h.symm e
            · exact h
          have x1 := (List.pairwise_cons.mp h1).1 b hb
          have x2 := (List.pairwise_cons.mp h2).1 a ha
          omega
      subst hab
      rw [perm_eq ((List.perm_cons a).mp p) (List.pairwise_cons.mp h1).2 (List.pairwise_cons.mp h2).2]
theorem upTo_pairwise {κ : Nat → Int} {n : Nat} {p : Array Nat} (P : Pm κ n p) (u : UpTo κ p n) : p.toList.Pairwise (fun i j => κ i < κ j) := by
  rw [List.pairwise_iff_getElem]
  intro i j hi hj hij
  rw [Array.length_toList] at hi hj
  have := u.lt' hij (by rw [← P.sz]; exact hj)
  unfold GG at this
  simp only [Array.getD, hi, hj, dif_pos] at this
  simpa using this
theorem pm_mem {κ : Nat → Int} {n : Nat} {p : Array Nat} (P : Pm κ n p) {i : Nat} (h : i ∈ p.toList) : i < n := by
  have := (Array.perm_iff_toList_perm.mp P.perm).mem_iff.mp h
  simpa using this
def kAt (kk : List K3) (i : Nat) : K3 := kk.getD i (0, 0, 0)
theorem kAt_get {kk : List K3} {i : Nat} (h : i < kk.length) : kk[i]? = some (kAt kk i) := by
  unfold kAt; rw [List.getD_eq_getElem?_getD, List.getElem?_eq_getElem h]; rfl
/-- works in the order of the sort -/
theorem good_of {kk : List K3} (hd : ∀ i k, kk[i]? = some k → Dealt i k) {p : Array Nat} (P : Pm (fun i => (kAt kk i).2.1) kk.length p) (u : UpTo (fun i => (kAt kk i).2.1) p kk.length) : Good (p.toList.map (kAt kk)) ∧ Rise (p.toList.map (kAt kk)) := by
  have pw := upTo_pairwise P u
  have dl : ∀ i, i ∈ p.toList → Dealt i (kAt kk i) := fun i hi => hd i _ (kAt_get (pm_mem P hi))
  have pw2 : p.toList.Pairwise (fun i j => (kAt kk i).2.1 < (kAt kk j).2.1 ∧ ((kAt kk i).1 = (kAt kk i).2.1 → (kAt kk i).2.1 + 1 < (kAt kk j).2.1)) := by
    rw [List.pairwise_iff_getElem] at pw ⊢
    intro i j hi hj hij
    have h1 := pw i j hi hj hij
    refine ⟨h1, fun e => ?_⟩
    have d1 := dl _ (List.getElem_mem hi)
    have d2 := dl _ (List.getElem_mem hj)
    have hne : p.toList[i] ≠ p.toList[j] := fun e => by rw [e] at h1; exact absurd h1 (Int.lt_irrefl _)
    obtain ⟨a1, a2, a3, a4⟩ := d1
    obtain ⟨b1, b2, b3, b4⟩ := d2
    have := a4 e
    have hx : ((p.toList[i] : Nat) : Int) ≠ ((p.toList[j] : Nat) : Int) := fun e => hne (Int.ofNat.inj e)
    omega
  refine ⟨⟨List.pairwise_map.mpr pw2, fun k hk => ?_⟩, List.pairwise_map.mpr pw, fun k hk => ?_⟩
  · obtain ⟨i, hi, rfl⟩ := List.mem_map.mp hk
    obtain ⟨a1, a2, a3, a4⟩ := dl i hi
    exact ⟨a2, by omega⟩
  · obtain ⟨i, hi, rfl⟩ := List.mem_map.mp hk
    exact (dl i hi).2.1
theorem inj_of {kk : List K3} (hz : kk.length ≤ 7) (hd : ∀ i k, kk[i]? = some k → Dealt i k) : ∀ i j, i < kk.length → j < kk.length → (kAt kk i).2.1 = (kAt kk j).2.1 → i = j := by
  intro i j hi hj e
  obtain ⟨_, _, a3, _⟩ := hd i _ (kAt_get hi)
  obtain ⟨_, _, b3, _⟩ := hd j _ (kAt_get hj)
  rw [e] at a3
  omega
/-- the fold's state: the best worths so far -/
def Best (hc : Heap) (ns : List Int) (i : Nat) (v : Value) (new : Led) : Prop :=
  ∃ rl bs, v = .ref rl ∧ (new = [(rl, dList bs)] ∨ (new = [] ∧ At hc rl (dList bs) ∧ rl ∉ Tb)) ∧ IntsAre bs (ns.take (i + 1))
theorem best_step {w : World} {hc : Heap} {st la : Addr} {xs : List Value} {ks : List K3} {ns : List Int} {n : Nat} (hn : Nat.blt (n + 3) recursionLimit = true) (K : KIn w.params hc) (hs : IsStep hc st la) (hl : At hc la (dList xs)) (hT : la ∉ Tb) (hx : Are (IsW hc) xs ks) (hz : xs.length ≤ 1000)
    (hg : Good ks) (hr : Rise ks) (d : Due ns ks) {A : Around} {h' : Heap} {i : Nat} {v x : Value} {new : Led} {u : Nat} (a : AOk A n u) (X : Ext hc h') (T : Tabs h') (hnew : ∀ p ∈ new, At h' p.1 p.2 ∧ p.1 ∉ Tb) (j : Best hc ns i v new) (hxi : xs[i]? = some x) :
    (∃ fd, At h' st (dFun fd)) ∧ Does w A (call (.ref st) [v, x] []) h' fun r new' _ => Best hc ns (i + 1) r new' := by
  obtain ⟨k, hk, W⟩ := hx.get hxi
  obtain ⟨rl, bs, rfl, hb, hi⟩ := j
  have hlt := (List.getElem?_eq_some_iff.mp hk).1
  have hnl := d.1
  have hbl : (ns.take (i + 1)).length = i + 1 := by rw [List.length_take]; omega
  have hb' : At h' rl (dList bs) ∧ rl ∉ Tb := by
    rcases hb with rfl | ⟨rfl, h1, h2⟩
    · exact hnew _ (.head _)
    · exact ⟨h1.ext X h2, h2⟩
  refine ⟨let ⟨_, _, _, _, _, _, _, n1, _, _, _, _, _, f, _⟩ := hs; ⟨_, f.ext X n1⟩, ?_⟩
  intro Q E g dr t os q
  refine s_step a hn (K.ext X) T (hs.ext X) (hl.ext X hT) hT (hx.mono fun _ _ z => IsWork.ext z X) hz hg hb'.1 hb'.2 hi (by omega) (by omega) (W.ext X) Q E g dr t os fun v new h2 t2 X2 T2 N2 D2 P2 => q v new h2 t2 X2 T2 N2 D2 ?_
  obtain ⟨rl', t', rfl, rfl⟩ := P2
  refine ⟨rl', _, rfl, .inl rfl, ?_⟩
  have e := due_step hr d hk
  have g1 : (ns.take (i + 1)).getD ((ns.take (i + 1)).length - 1) 0 = ns.getD i 0 := by
    rw [hbl, Nat.add_sub_cancel, List.getD_eq_getElem?_getD, List.getD_eq_getElem?_getD, List.getElem?_take, if_pos (Nat.lt_succ_self i)]
  have hp : rvn (ks.take i) k.1 ≤ i := by
    have := rvn_le (ks.take i) k.1
    rw [List.length_take] at this; omega
  have g2 : (ns.take (i + 1)).getD (rvn (ks.take ((ns.take (i + 1)).length - 1)) k.1) 0 = ns.getD (rvn (ks.take i) k.1) 0 := by
    rw [hbl, Nat.add_sub_cancel, List.getD_eq_getElem?_getD, List.getD_eq_getElem?_getD, List.getElem?_take, if_pos (Nat.lt_succ_of_le hp)]
  rw [g1, g2, ← e]
  have e2 : ns.take (i + 1 + 1) = ns.take (i + 1) ++ [ns.getD (i + 1) 0] := by
    rw [List.take_add_one, List.getD_eq_getElem?_getD, List.getElem?_eq_getElem (by omega)]; rfl
  rw [e2]
  exact IntsAre.append hi (.cons _ _ .nil)
def StepPost (w : World) (v : Value) (r : Value) (new : Led) (h' : Heap) : Prop := ∃ st c1 c2 c' doc ctv p newP, r = .ref st ∧ h'.CodeRec (.ref c') stQ ∧ c' ∉ Tb ∧
      new = (st, dObj (fnMade "step" stQ stS.1.1 stS.1.2.1 stS.1.2.2 [("works", c1), ("prog", c2)] doc (pmOf w) c' ctv)) :: newP ++ [(c2, dCell (some (.ref p))), (c1, dCell (some v))] ∧ 
      ∃ dx se T c' fd doc ctv tk, h'.CodeRec (.ref c') seQ ∧ c' ∉ Tb ∧
      newP = [(dx, dNz 1 (lk [("search", .ref se)])), (p, dObj { cls := .type "function", dict := some dx, data := .func fd }), (se, dObj (kdv_obj "search" seQ seS.1.1 (.stmts seS.1.2.1) seS.1.2.2 [] (.ref T) doc (pmOf w) c' ctv)), (T, dTup [.int (-100) tk])]
theorem step_of {w : World} {B h : Heap} {new own : Led} {r : Value} {la : Addr} (S : St w B h (new ++ own)) (P : StepPost w (.ref la) r new h) : ∃ B' st, r = .ref st ∧ Ext B B' ∧ IsStep B' st la ∧ St w B' h own := by
  obtain ⟨st, c1, c2, c', doc, ctv, p, newP, rfl, hcr, hc, rfl, dx, se, T, c2', fd, doc2, ctv2, tk, hcr2, hc2, rfl⟩ := P
  obtain ⟨B1, X1, r1, S1⟩ := S.learn hcr hc
  obtain ⟨B2, X2, r2, S2⟩ := S1.learn hcr2 hc2
  obtain ⟨B3, X3, F, S3⟩ := S2.frz (List.Perm.refl _)
  refine ⟨B3, st, rfl, (X1.trans X2).trans X3, ?_, S3⟩
  have f := fun i (p : Addr × (Obj → Prop)) (h : _) => F p (List.mem_of_getElem? (i := i) h)
  have f0 := f 0 _ rfl
  have f1 := f 1 _ rfl
  have f2 := f 2 _ rfl
  have f3 := f 3 _ rfl
  have f4 := f 4 _ rfl
  have f5 := f 5 _ rfl
  have f6 := f 6 _ rfl
  refine ⟨c1, c2, p, c', doc, ctv, pmOf w, f0.2, f6.2, f5.2, hc, f2.2, codeRec_ext (codeRec_ext r1 X2 hc) X3 hc, fnAt f0.1, f6.1, f5.1, ?_⟩
  refine ⟨dx, fd, se, f2.2, f1.2, f2.1, f1.1, ?_⟩
  exact ⟨T, c2', doc2, ctv2, pmOf w, tk, f3.2, f4.2, hc2, fnAt f3.1, f4.1, codeRec_ext r2 X3 hc2⟩
theorem due_zero {ns : List Int} {ks : List K3} (d : Due ns ks) : ns.take 1 = [0] := by
  obtain ⟨M, e1, e2, e3⟩ := d.2 0 (Nat.zero_le _)
  have : M = 0 := by simpa [chs] using e2
  subst this
  rw [show (1 : Nat) = 0 + 1 from rfl, List.take_add_one, e1]; rfl
theorem best_end {w : World} {hc h' : Heap} {B own} {ns : List Int} {ks : List K3} {v : Value} {new : Led} (d : Due ns ks) (j : Best hc ns ks.length v new) (S : St w B h' (new ++ own)) (X : Ext hc h') : ∃ rl bs, v = .ref rl ∧ At h' rl (dList bs) ∧ IntsAre bs ns ∧ St w B h' own := by
  obtain ⟨rl, bs, rfl, hb, hi⟩ := j
  rw [List.take_of_length_le (by rw [d.1]; exact Nat.le_refl _)] at hi
  refine ⟨rl, bs, rfl, ?_, hi, S.sublist (List.sublist_append_right _ _)⟩
  rcases hb with rfl | ⟨rfl, h1, h2⟩
  · exact S.mem .head
  · exact h1.ext X h2

local macro_rules | `(tactic| wtm_at "mine w6") => `(tactic| first
  | wtm_at "mine w5"
  | ((with_reducible refine' callWith_kw ?_ ?zzhe ?zzhp ?zzha ?zzhk); (case zzhe => exact rfl); (case zzhp => exact rfl); (case zzha => exact rfl); (case zzhk => exact rfl))
  | with_reducible refine kws_cons ?_
  | with_reducible refine kws_nil ?_)
theorem are_map2 {α β γ : Type} {R : β → γ → Prop} {f : α → β} {g : α → γ} : ∀ {l : List α}, (∀ i ∈ l, R (f i) (g i)) → Are R (l.map f) (l.map g)
  | [], _ => .nil
  | i :: l, h => .cons (h i (.head _)) (are_map2 fun j hj => h j (.tail _ hj))
theorem s_law {w : World} {A : Around} {h : Heap} {sa : Addr} {vs : List Value} {ns : List Int} {n u : Nat} {Q : Value → Shared → Prop} {E : Value → Shared → Prop} {g : Array GenState} {d : Drawn} {t : Nat} {os : OsState} (a : AOk A n u) (hn : n ≤ 320) (hu : u ≤ 100) (K : KIn w.params h) (T : Tabs h) (h16 : h.get? 16 = some emptyTab)
    (hl : h.IsList sa vs.toArray) (hT : sa ∉ KTb) (hi : IntsAre vs ns) (hz : vs.length ≤ 1000)
    (q : ∀ h' t', (∀ b o, h.get? b = some o → b ∉ KTb → h'.get? b = some o) → Tabs h' → (∃ vs, h'.get? 16 = some { cls := .none, data := .fields vs }) → Q (.bool true) ⟨h', g, d, t', os⟩) :
    wpM w A (call (.ref 98) [.ref sa] []) Q E ⟨h, g, d, t, os⟩ := by
  have hrl : (600 : Nat) < recursionLimit := by decide
  have hcl : (400 : Nat) < cLine := by decide
  have hn0 : ∀ k, k ≤ 200 → Nat.blt (n + k) recursionLimit = true := fun k hk => Nat.ble_eq_true_of_le (by omega)
  obtain ⟨pm, hf⟩ := fa98 K
  have hT' := ktb hT
  refine enter (l := [("script", .ref sa)]) a (hn0 0 (by omega)) hf K T (ca98 K) (binds := [("script", .ref sa)]) (BindsTo.of_eq rfl) fun L h₁ t₁ A' E' a' S => ?_
  refine wpAny_execs_cons ?_
  repeat' wtm_at "mine w6"
  refine ⟨let ⟨_, hf⟩ := fa58 S.kinh; ⟨_, hf⟩, s_dealt a' (hn0 1 (by omega)) S.kinh S.tb (isL_ext hl S.keep hT') hT' hi hz _ _ _ _ _ _ fun v new h2 t2 X2 T2 N2 D2 P2 => ?_⟩
  obtain ⟨la, ps, rfl, rfl, hp7, hdl⟩ := P2
  have S2 := S.call X2 T2 N2 D2
  clear S
  obtain ⟨B1, X1, F1, S⟩ := S2.frz (List.Perm.refl _)
  clear S2
  have D1 := (F1 _ (.head _)).1
  have n1 := (F1 _ (.head _)).2
  have wks : ∀ p ∈ ps, IsW B1 p.val p.key := fun p hp => by
    have := F1 p.led (.tail _ (List.mem_map_of_mem (List.mem_reverse.mpr hp)))
    exact ⟨p.a, p.t1, p.t2, p.t3, rfl, this.2, this.1⟩
  have h16' : B1.get? 16 = some emptyTab := X1 16 _ h16 (by decide)
  repeat' wtm_at "mine w6"
  refine ⟨let ⟨_, hf⟩ := fa21 S.kinh; ⟨_, hf⟩, o_cmp a' (by omega) (by omega) S h16' fun h3 t3 B2 k kb S hk e16 => ?_⟩
  have lift : ∀ (a : Addr) (dd : Obj → Prop), (∀ o, dd o → o.cls ≠ .none) → At B1 a dd → a ∉ Tb → At B2 a dd := fun a dd hc ⟨o, e, r⟩ ht => ⟨o, kb a o e (fun hm => by
    rcases List.mem_cons.mp hm with rfl | hm
    · rw [h16'] at e; cases e; exact hc _ r rfl
    · exact ht hm), r⟩
  have tcls : ∀ xs o, dTup xs o → o.cls ≠ .none := fun xs o ⟨n, e⟩ => by rw [e]; exact of_decide_eq_true rfl
  have lcls : ∀ xs o, dList xs o → o.cls ≠ .none := fun xs o ⟨n, e⟩ => by rw [e]; exact of_decide_eq_true rfl
  have D2' : At B2 la (dList (ps.map Wk.val)) := lift _ _ (lcls _) D1 n1
  have wks2 : ∀ p ∈ ps, IsW B2 p.val p.key := fun p hp => by
    have := F1 p.led (.tail _ (List.mem_map_of_mem (List.mem_reverse.mpr hp)))
    exact ⟨p.a, p.t1, p.t2, p.t3, rfl, this.2, lift _ _ (tcls _) this.1 this.2⟩
  clear D1 wks F1 N2 D2 T2 X2
  have hkl : (ps.map Wk.key).length = 7 := by rw [List.length_map, hp7]
  have hvl : (ps.map Wk.val).length = 7 := by rw [List.length_map, hp7]
  have hdk : ∀ i k, (ps.map Wk.key)[i]? = some k → Dealt i k := fun i k hk => by
    rw [List.getElem?_map] at hk
    cases hp : ps[i]? with
    | none => rw [hp] at hk; cases hk
    | some p => rw [hp] at hk; cases hk; exact hdl i p hp
  have inj : ∀ i j, i < (ps.map Wk.val).length → j < (ps.map Wk.val).length → (kAt (ps.map Wk.key) i).2.1 = (kAt (ps.map Wk.key) j).2.1 → i = j := by
    rw [hvl, ← hkl]; exact inj_of (by rw [hkl]; exact Nat.le_refl _) hdk
  have atv : ∀ i v, (ps.map Wk.val)[i]? = some v → ∃ p ∈ ps, v = .ref p.a ∧ kAt (ps.map Wk.key) i = p.key := fun i v hv => by
    rw [List.getElem?_map] at hv
    cases hp : ps[i]? with
    | none => rw [hp] at hv; cases hv
    | some p =>
      rw [hp] at hv; cases hv
      refine ⟨p, List.mem_of_getElem? hp, rfl, ?_⟩
      unfold kAt
      rw [List.getD_eq_getElem?_getD, List.getElem?_map, hp]; rfl
  repeat' wtm_at "mine w6"
  refine o_sorted (KP := fun B i v => ∃ x p, v = .ref x ∧ p ∈ ps ∧ kAt (ps.map Wk.key) i = p.key ∧ IsInst B k x p.a) (κ := fun i => (kAt (ps.map Wk.key) i).2.1) (T := .ref k) a' S (S.old D2' n1).list (by omega) (by omega) inj ?_ ?_ ?_ rfl (beq_self_eq_true _) ?_ ?_
  · rintro B B' i v X ⟨x, p, e, h1, h2, h3⟩
    exact ⟨x, p, e, h1, h2, h3.ext X⟩
  · rintro A2 h' i v ao X T hv
    obtain ⟨p, hp, rfl, hpk⟩ := atv i v hv
    intro Q E g dr t os q
    refine s_inst ao (by omega) (by omega) ((S.kin).ext X) T (hk.ext X) Q E g dr t os fun v new h2 t2 X2 T2 N2 D2 P2 => q v new h2 t2 X2 T2 N2 D2 fun B' Y F => ?_
    obtain ⟨x, dx, rfl, rfl⟩ := P2
    obtain ⟨⟨o1, e1, r1⟩, n1⟩ := F _ (.head _)
    obtain ⟨⟨o2, e2, r2⟩, n2⟩ := F _ (.tail _ (.head _))
    cases r1; cases r2
    exact ⟨x, p, rfl, hp, hpk, dx, n1, n2, e1, e2⟩
  · rintro B' i v h' Y ⟨x, p, rfl, hp, hpk, dx, n1, n2, e1, e2⟩ X
    exact (Looks.ld (X _ _ e1 n1)).andThen .now
  · rintro A2 B' h' i j ki kj ao Y X T ⟨x, p, rfl, hp, hpk, hI⟩ ⟨y, p', rfl, hp', hpk', hI'⟩
    rw [hpk, hpk']
    exact s_lt ao (by omega) (by omega) (((S.kin).ext Y).ext X) T ((hk.ext Y).ext X) (hI.ext X) (hI'.ext X) (IsWork.ext (IsWork.ext (wks2 p hp) Y) X) (IsWork.ext (IsWork.ext (wks2 p' hp') Y) X)
  · rintro D p B3 h' t' X3 S' P u'
    clear S
    have S := S'
    clear S'
    obtain ⟨B4, X4, F4, S⟩ := S.frz (new := [_]) (own' := [_]) (List.Perm.refl _)
    have DW := (F4 _ (.head _)).1
    have nW := (F4 _ (.head _)).2
    have Pk : Pm (fun i => (kAt (ps.map Wk.key) i).2.1) (ps.map Wk.key).length p := by rw [hkl, ← hvl]; exact P
    have uk : UpTo (fun i => (kAt (ps.map Wk.key) i).2.1) p (ps.map Wk.key).length := by rw [hkl, ← hvl]; exact u'
    obtain ⟨hG, hR⟩ := good_of hdk Pk uk
    have hA : ∀ (pp : Array Nat), Pm (fun i => (kAt (ps.map Wk.key) i).2.1) (ps.map Wk.val).length pp → Are (IsW B4) (pp.toList.map fun i => (ps.map Wk.val).getD i Value.none) (pp.toList.map (kAt (ps.map Wk.key))) := fun pp P => are_map2 fun i hi => by
      have hi' := pm_mem P hi
      obtain ⟨p0, hp0, e1, e2⟩ := atv i _ (List.getElem?_eq_getElem hi')
      rw [e2, List.getD_eq_getElem?_getD, List.getElem?_eq_getElem hi', e1]
      exact IsWork.ext (IsWork.ext (wks2 p0 hp0) X3) X4
    have hW := hA p P
    have D4 : At B4 la (dList (ps.map Wk.val)) := (D2'.ext X3 n1).ext X4 n1
    have wl : (p.toList.map fun i => (ps.map Wk.val).getD i Value.none).length = 7 := by rw [List.length_map, Array.length_toList, P.sz, hvl]
    have hwk : (p.toList.map (kAt (ps.map Wk.key))).length = 7 := by rw [List.length_map, Array.length_toList, P.sz, hvl]
    repeat' wtm_at "mine w6"
    refine o_sorted (KP := fun B i v => ∃ tk, v = .int ((kAt (ps.map Wk.key) i).2.1) tk) (κ := fun i => (kAt (ps.map Wk.key) i).2.1) (T := .type "int") a' S (S.old D4 n1).list (by omega) (by omega) inj ?_ ?_ ?_ rfl rfl ?_ ?_
    · rintro B B' i v X z
      exact z
    · rintro A2 h' i v ao X T hv
      obtain ⟨p0, hp0, rfl, hpk⟩ := atv i v hv
      intro Q E g dr t os q
      refine s_end ao (hn0 1 (by omega)) ((S.kin).ext X) T (IsWork.ext (IsWork.ext (IsWork.ext (wks2 p0 hp0) X3) X4) X) Q E g dr t os fun v new h2 t2 X2 T2 N2 D2 P2 => q v new h2 t2 X2 T2 N2 D2 fun B' Y F => ?_
      obtain ⟨rfl, tk, rfl⟩ := P2
      exact ⟨tk, by rw [hpk]⟩
    · rintro B' i v h' Y ⟨tk, rfl⟩ X
      exact Looks.of_pure rfl
    · rintro A2 B' h' i j ki kj ao Y X T ⟨tk, rfl⟩ ⟨tk', rfl⟩
      intro Q E g dr t os q
      rw [keyLt'_oneType]
      exact oneLt_int (q _ [] h' t (ExtT.refl _ _) T (fun _ hp => nomatch hp) .nil rfl)
    · rintro D2 p2 B5 h' t' X5 S' P2 u2
      clear S
      have S := S'
      clear S'
      have hpe : p2.toList = p.toList := perm_eq ((Array.perm_iff_toList_perm.mp P2.perm).trans (Array.perm_iff_toList_perm.mp P.perm).symm) (upTo_pairwise P2 u2) (upTo_pairwise P u')
      have hW2 := hA p2 P2
      rw [hpe] at S hW2
      repeat' wtm_at "mine w6"
      have DW5 := DW.ext X5 nW
      have hW5 := hW.mono fun _ _ z => IsWork.ext z X5
      refine o_neWorks (S.old DW5 nW) (S.mem .head) (hW5.mono fun _ _ z => IsWork.ext z S.keep) ((hW2.mono fun _ _ z => IsWork.ext z X5).mono fun _ _ z => IsWork.ext z S.keep) (by have := a'.un; omega) ?_
      replace S := S.tl
      repeat' wtm_at "mine w6"
      refine ⟨let ⟨_, hf⟩ := fa91 S.kinh; ⟨_, hf⟩, s_greatest a' (hn0 2 (by omega)) S.kinh S.tb (S.old DW5 nW) nW (hW5.mono fun _ _ z => IsWork.ext z S.keep) (by omega) _ _ _ _ _ _ fun v new h6 t6 X6 T6 N6 E6 P6 => ?_⟩
      obtain ⟨da, dvs, nd, rfl, rfl, hdi, hdue⟩ := P6
      have S6 := S.call X6 T6 N6 E6
      clear S
      obtain ⟨B6, Y6, F6, S⟩ := S6.frz (new := [_]) (own' := [_]) (List.Perm.refl _)
      have DD := (F6 _ (.head _)).1
      have nD := (F6 _ (.head _)).2
      have DW6 := DW5.ext Y6 nW
      have hW6 := hW5.mono fun _ _ z => IsWork.ext z Y6
      repeat' wtm_at "mine w6"
      refine BoolOp_and ?_
      repeat' wtm_at "mine w6"
      refine ⟨let ⟨_, hf⟩ := fa79 S.kinh; ⟨_, hf⟩, s_mkstep a' (hn0 2 (by omega)) S.kinh S.tb _ _ _ _ _ _ fun v new h7 t7 X7 T7 N7 E7 P7 => ?_⟩
      obtain ⟨B7, st, rfl, Y7, hst, S7⟩ := step_of (S.call X7 T7 N7 E7) P7
      clear S
      have S := S7
      clear S7
      have DW7 := DW6.ext Y7 nW
      have DD7 := DD.ext Y7 nD
      have hW7 := hW6.mono fun _ _ z => IsWork.ext z Y7
      repeat' wtm_at "mine w6"
      have nz := S.ntb .head
      have hzl := S.mem .head
      refine ⟨let ⟨_, hf⟩ := fa30 S.kinh; ⟨_, hf⟩, s_reduce (xs := p.toList.map fun i => (ps.map Wk.val).getD i Value.none) (i₀ := 0) (v₀ := .ref _) (Best _ nd) a' (hn0 2 (by omega)) S.kinh S.tb (S.old DW7 nW) nW (.inl ⟨rfl, rfl, _, _, rfl, hzl, nz⟩) ⟨_, _, rfl, .inr ⟨rfl, hzl, nz⟩, by rw [due_zero hdue]; exact .cons _ _ .nil⟩
        (fun A h' i v x new u a X T hnew j hx => best_step (hn0 5 (by omega)) S.kinh (hst.ext S.keep) (S.old DW7 nW) nW (hW7.mono fun _ _ z => IsWork.ext z S.keep) (by omega) hG hR hdue a X T hnew j hx) _ _ _ _ _ _ fun v new h8 t8 X8 T8 N8 E8 P8 => ?_⟩
      rw [wl, ← hwk] at P8
      obtain ⟨rl, bs, rfl, hrl2, hbi, S8⟩ := best_end hdue P8 (S.call X8 T8 N8 E8) X8
      clear S
      have S := S8
      clear S8
      repeat' wtm_at "mine w6"
      refine o_eqInts hrl2 (S.old DD7 nD) hbi hdi (by have := a'.un; omega) ?_
      rw [show decide (nd = nd) = true from decide_eq_true rfl]
      repeat' wtm_at "mine w6"
      replace S := S.tl
      refine BoolOp_one ?_
      repeat' wtm_at "mine w6"
      refine ⟨let ⟨_, hf⟩ := fa79 S.kinh; ⟨_, hf⟩, s_mkstep a' (hn0 2 (by omega)) S.kinh S.tb _ _ _ _ _ _ fun v new h9 t9 X9 T9 N9 E9 P9 => ?_⟩
      obtain ⟨B8, st2, rfl, Y8, hst2, S9⟩ := step_of (S.call X9 T9 N9 E9) P9
      clear S
      have S := S9
      clear S9
      have DW8 := DW7.ext Y8 nW
      have DD8 := DD7.ext Y8 nD
      have hW8 := hW7.mono fun _ _ z => IsWork.ext z Y8
      repeat' wtm_at "mine w6"
      refine o_addL S (S.mem .head) (S.old DW8 nW) (fun sq h10 S => ?_) (by rw [wl, sizeLine_eq, List.length_singleton]; decide)
      repeat' wtm_at "mine w6"
      have nz := S.ntb (.tail (.tail .head))
      have hzl := S.mem (.tail (.tail .head))
      have nq := S.ntb .head
      have hql := S.mem .head
      refine ⟨let ⟨_, hf⟩ := fa30 S.kinh; ⟨_, hf⟩, s_reduce (xs := [.ref _] ++ p.toList.map fun i => (ps.map Wk.val).getD i Value.none) (i₀ := 1) (v₀ := .ref _) (fun i v new => 1 ≤ i ∧ Best _ nd (i - 1) v new) a' (hn0 2 (by omega)) S.kinh S.tb hql nq (.inr ⟨rfl, rfl, rfl⟩) ⟨Nat.le_refl _, _, _, rfl, .inr ⟨rfl, hzl, nz⟩, by rw [Nat.sub_self, due_zero hdue]; exact .cons _ _ .nil⟩
        (fun A h' i v x new u a X T hnew j hx => ?_) _ _ _ _ _ _ fun v new h11 t11 X11 T11 N11 E11 P11 => ?_⟩
      · obtain ⟨j1, j2⟩ := j
        obtain ⟨i', rfl⟩ : ∃ i', i = i' + 1 := ⟨i - 1, by omega⟩
        have := best_step (hn0 5 (by omega)) S.kinh (hst2.ext S.keep) (S.old DW8 nW) nW (hW8.mono fun _ _ z => IsWork.ext z S.keep) (by omega) hG hR hdue a X T hnew (i := i') j2 (by simpa using hx)
        refine ⟨this.1, fun Q E g dr t os q => this.2 Q E g dr t os fun v new h' t' x1 x2 x3 x4 x5 => q v new h' t' x1 x2 x3 x4 ⟨by omega, x5⟩⟩
      · obtain ⟨_, P12⟩ := P11
        rw [List.length_append, wl, List.length_singleton, Nat.add_sub_cancel_left, ← hwk] at P12
        obtain ⟨rl2, bs2, rfl, hrl3, hbi2, S12⟩ := best_end hdue P12 (S.call X11 T11 N11 E11) X11
        clear S
        have S := S12
        clear S12
        repeat' wtm_at "mine w6"
        refine o_eqInts hrl3 (S.old DD8 nD) hbi2 hdi (by have := a'.un; omega) ?_
        rw [show decide (nd = nd) = true from decide_eq_true rfl]
        have XX : ∀ b o, B2.get? b = some o → b ∉ Tb → h11.get? b = some o := fun b o e hb => S.keep b o (Y8 b o (Y7 b o (Y6 b o (X5 b o (X4 b o (X3 b o e hb) hb) hb) hb) hb) hb) hb
        obtain ⟨v16, e16⟩ := e16
        exact q _ _ (fun b o e hb => XX b o (kb b o (X1 b o e (ktb hb)) hb) (ktb hb)) S.tb ⟨v16, XX _ _ e16 (by decide)⟩

theorem tab_was {h h' : Heap} {b : Addr} {o : Obj} (hb : h.get? b = some { cls := .none, data := .fields #[] }) (ic : isCodeTable h b) (he : ∃ vs, h'.get? b = some { cls := .none, data := .fields vs }) (e : h.get? b = some o) : asItWas h h' b o ∧ ∃ o', h'.get? b = some o' := by
  obtain ⟨vs, he⟩ := he
  rw [hb] at e; cases e
  exact ⟨.inr (.inl ⟨ic, rfl, #[], vs, rfl, by rw [he]; simp⟩), _, he⟩
theorem old_of {P : Params} {h h' : Heap} (KX : (hp P).In h) (kp : ∀ b o, h.get? b = some o → b ∉ KTb → h'.get? b = some o) (T : Tabs h') (h16 : ∃ vs, h'.get? 16 = some { cls := .none, data := .fields vs }) : OldK h h' := by
  have tb : ∀ e ∈ TS, ∃ vs, h'.get? e.1 = some { cls := .none, data := .fields vs } := fun e he => by
    obtain ⟨ps, h1, _⟩ := T e he
    exact ⟨ps, h1⟩
  have key : ∀ b o, b ∈ KTb → h.get? b = some o → asItWas h h' b o ∧ ∃ o', h'.get? b = some o' := by
    intro b o hb e
    have hb' : b = 16 ∨ b = 39 ∨ b = 46 ∨ b = 74 := by simpa using hb
    rcases hb' with rfl | rfl | rfl | rfl
    · exact tab_was (KX 16 _ rfl) ⟨20, _, _, KX 20 _ rfl, rfl, rfl, rfl⟩ h16 e
    · exact tab_was (KX 39 _ rfl) ⟨43, _, _, KX 43 _ rfl, rfl, rfl, rfl⟩ (tb (39, sp39) (by decide)) e
    · exact tab_was (KX 46 _ rfl) ⟨50, _, _, KX 50 _ rfl, rfl, rfl, rfl⟩ (tb (46, sp46) (by decide)) e
    · exact tab_was (KX 74 _ rfl) ⟨78, _, _, KX 78 _ rfl, rfl, rfl, rfl⟩ (tb (74, sp74) (by decide)) e
  refine ⟨fun b o e => ?_, fun b o e => ?_⟩
  · by_cases hb : b ∈ KTb
    · exact (key b o hb e).1
    · exact .inl (kp b o e hb)
  · by_cases hb : b ∈ KTb
    · exact (key b o hb e).2
    · exact ⟨o, kp b o e hb⟩
theorem kin_of {P : Params} {h : Heap} (KX : (hp P).In h) : KIn P h := fun a o e _ => KX a o e
theorem tabs_of {P : Params} {h : Heap} (KX : (hp P).In h) : Tabs h := by
  have one : ∀ (b : Addr) (sp : Spec), h.get? b = some (tabObj #[]) → TabOk Tb h b sp := fun b sp e => ⟨#[], e, by trivial, fun _ _ _ _ _ _ hc => by cases hc⟩
  intro e he
  have he' : e = (39, sp39) ∨ e = (46, sp46) ∨ e = (74, sp74) := by simpa [TS] using he
  rcases he' with rfl | rfl | rfl
  · exact one 39 _ (KX 39 _ rfl)
  · exact one 46 _ (KX 46 _ rfl)
  · exact one 74 _ (KX 74 _ rfl)

theorem law_end {c : ClaimW} {cl : Str → Option Addr} {mean : ExcName → Option Value} {args : List WData} {s₁ : Shared} {h : Heap} {g : Array GenState} {d : Drawn} {t : Nat} (O : OldK s₁.heap h) (hr : ∀ cls, c.raises args cls = false) (hp : c.post args (.bool true) args = true) (hb : AllBare g) :
    GoodWG c cl mean args s₁ (.ok (.ret (.bool true))) ⟨h, g, d, t, s₁.os⟩ :=
  ⟨.inl ⟨_, _, [], rfl, hr, ReadsW.bool true, hp, fun _ => ⟨List.nodup_nil, fun _ hm => (nomatch hm)⟩⟩, O, rfl, hb⟩
theorem law_call {w : World} {s₁ : Shared} {c : ClaimW} {cl : Str → Option Addr} {mean : ExcName → Option Value} {args : List WData} {sa : Addr} {vs : List Value} {ns : List Int} (KX : (hp w.params).In s₁.heap) (hl : s₁.heap.IsList sa vs.toArray) (hi : IntsAre vs ns) (hz : vs.length ≤ 1000) (hg : s₁.gens = #[])
    (hr : ∀ cls, c.raises args cls = false) (hp : c.post args (.bool true) args = true) :
    wpAny (model Pr w) callerA (call (.ref 98) [.ref sa] []) (fun v s' => GoodWG c cl mean args s₁ (.ok (.ret v)) s') (fun e s' => GoodWG c cl mean args s₁ (.error e) s') s₁ := by
  obtain ⟨h, g, d, t, os⟩ := s₁
  have hg : g = #[] := hg
  subst hg
  have hsa : sa ∉ KTb := fun hm => by
    obtain ⟨o, e, hc, _⟩ := hl
    have hb' : sa = 16 ∨ sa = 39 ∨ sa = 46 ∨ sa = 74 := by simpa using hm
    rcases hb' with rfl | rfl | rfl | rfl
    · rw [show h.get? 16 = _ from KX 16 _ rfl] at e; cases e; cases hc
    · rw [show h.get? 39 = _ from KX 39 _ rfl] at e; cases e; cases hc
    · rw [show h.get? 46 = _ from KX 46 _ rfl] at e; cases e; cases hc
    · rw [show h.get? 74 = _ from KX 74 _ rfl] at e; cases e; cases hc
  exact s_law (n := 301) (u := 4) ⟨rfl, by decide, by decide⟩ (by decide) (by decide) (kin_of KX) (tabs_of KX) (KX 16 _ rfl) hl hsa hi hz fun h' t' kp T e16 => law_end (old_of KX kp T e16) hr hp AllBare.empty

end Mine
theorem PySem.Challenge.cw_ij0010_02_holds : PySem.Challenge.rw_ij0010_02.Holds := by
  w_on
  o_law
  refine holds_openX (q := Mine.view) (loose := [Str.ofString "_initial_missing", Str.ofString "reduce"]) (Xt := fun s => xlAt Mine.view [] s && recOk (RowW.records PySem.Challenge.rw_ij0010_02.row.toRowW) s) (XP := XL Mine.view []) (Yf := X.obsZ Mine.hpAs) (Ya := X.valZ Mine.hp 99 311) (N := 996) ?hl (fun s e => xl_of s (Bool.and_eq_true_iff.mp e).1) XL.keeps (by rfl) (by rfl) (by rfl) (fun s e => recFacts_of (Bool.and_eq_true_iff.mp e).2) (by rfl) (by first | assumption | decide +kernel) (by decide +kernel) ⟨rfl, rfl, rfl, rfl, rfl, by decide +kernel⟩ ?hw ?hc
  case hl =>
    intro w
    kernel_rfl
  case hw => w_witness2
  intro w s₀ s₁ mg mb G y fa o pm cd doc dV kV ho hd hcd hD hmg hg args vals as L hpre hlay hrd hwl hlo
  have KX : (Mine.hp w.params).In s₁.heap := InK.keeps w _ _ (X.z_facts (fun P => by kernel_rfl) y).2.1 (Laid.keeps L)
  refine Ground.open G ?_
  intro T B D TE TW
  wrow_args hpre hlay hrd hwl hlo
  x_fa T KX hmg
  all_lens
  have hI := (readsAll_intsAre (by assumption)).1
  have e := hI.length
  refine Mine.law_call KX (by assumption) hI (by omega) hg (fun _ => rfl) ?_
  first
    | rfl
    | wrow_post
