import PyProof.Rows.All
import Wide.All
import OpenK.AllK
import Wide.FinOn
import Lean
import PySem.Challenge.RW_ij0010_01
open PySem PySem.W PyProof.Rows PySem.Calls
set_option Elab.async false
set_option maxRecDepth 100000
set_option maxHeartbeats 80000000
namespace Mine
section
open PySem.W.X
/-- what stands at the start of a run: the world, what may change of the old heap, the old heap -/
structure Cx where
  prog : Program
  w : World
  T : List Nat
  h₀ : Heap
  g : Array GenState
  d : Drawn
  os : OsState
  m : Nat
/-- a cell's address: the old ones by themselves, the new ones by their turn -/
def ad (X : Cx) (c : Nat) : Addr := X.m + c
abbrev Hist := List (Nat × Obj)
/-- the newest state of a cell -/
def fd : Hist → Nat → Option Obj
  | [], _ => none
  | p :: r, c => match Nat.beq p.1 c with
    | true => some p.2
    | false => fd r c
structure Own3 (X : Cx) (tb own : Hist) (c : Nat) (h : Heap) : Prop where
  keep : ∀ b o, X.h₀.get? b = some o → b ∉ X.T → h.get? b = some o
  tab : ∀ a o, fd tb a = some o → h.get? a = some o
  tT : ∀ a o, fd tb a = some o → a ∈ X.T
  cell : ∀ k o, fd own k = some o → h.get? (ad X k) = some o
  lt : ∀ k o, fd own k = some o → 97 ≤ k ∧ k < c
  old : ∀ b ∈ X.T, b < X.h₀.objs.size
  sz0 : X.h₀.objs.size = ad X 97
  sz : h.objs.size = ad X c
theorem fd_cons (k : Nat) (o : Obj) (r : Hist) (j : Nat) : fd ((k, o) :: r) j = if k = j then some o else fd r j := by
  show (match Nat.beq k j with | true => some o | false => fd r j) = _
  by_cases h : k = j
  · subst h; simp
  · rw [show Nat.beq k j = false from by cases q : Nat.beq k j with | false => rfl | true => exact absurd (Nat.eq_of_beq_eq_true q) h, if_neg h]
structure AK (A : Around) (B U : Nat) : Prop where
  hd : A.handled = none
  dp : A.depth ≤ B
  un : A.units ≤ U
def WO {α : Type} (X : Cx) (tb own : Hist) (c t : Nat) (A : Around) (e : Sem α) (Q : α → Shared → Prop) (E : Value → Shared → Prop) : Prop :=
  ∀ h, Own3 X tb own c h → wpAny (model X.prog X.w) A e Q E ⟨h, X.g, X.d, t, X.os⟩
def CO (X : Cx) (tb own : Hist) (c t : Nat) (A : Around) (cd : Code) (R : Result → Shared → Prop) : Prop :=
  ∀ h, Own3 X tb own c h → codeAny (model X.prog X.w) A cd R ⟨h, X.g, X.d, t, X.os⟩
noncomputable abbrev DX : Code → Sem PySem.Fin := ZFast.zw11892475500146522536 ZFast.tableZ
theorem DX_eq : denote table = DX := by
  show _ = ZFast.zw11892475500146522536 ZFast.tableZ
  rw [ZFast.ze11892475500146522536, ZFast.tableZ_eq]
section
variable {α β : Type} {X : Cx} {tb own : Hist} {c t : Nat} {A : Around} {Q : α → Shared → Prop} {E : Value → Shared → Prop}
theorem AK.under {B U : Nat} {cd : Code} (a : AK A B U) (hw : Nat.ble cd.weight 3 = true) (hv : Nat.ble cd.cUnits 10 = true) : AK (A.under cd) (B + 3) (U + 10) :=
  ⟨a.hd, Nat.add_le_add a.dp (Nat.le_of_ble_eq_true hw), Nat.add_le_add a.un (Nat.le_of_ble_eq_true hv)⟩
theorem e_skim (n : Nat) {e : Sem α} (x : WO X tb own c t A (skim ⟨X.prog, X.w.params⟩ n e) Q E) : WO X tb own c t A e Q E := fun h D => x_skim n (x h D)
theorem e_fresh {k : Tok → Sem α} (x : WO X tb own c t.succ A (k t) Q E) : WO X tb own c t A (.fresh k) Q E := fun h D => x_fresh (x h D)
theorem e_handled {k : Option Value → Sem α} {B U : Nat} (a : AK A B U) (x : WO X tb own c t A (k none) Q E) : WO X tb own c t A (.handled false k) Q E := fun h D => x_handled (by rw [a.hd]; exact x h D)
theorem e_stack {k : List (Code × Pos) → Sem α} {B U : Nat} (a : AK A B U) (hd : Nat.ble (B + 1) recursionLimit = true) (hu : Nat.ble (U + 1) cLine = true)
    (x : ∀ st, (∀ own, nearF st own recursionLimit = false) → (∀ own, overF st own recursionLimit = false) → (∀ own, warmF st own recursionLimit = false) → roomF st = false → WO X tb own c t A (k st) Q E) : WO X tb own c t A (.stack k) Q E := fun h D Γ p hΓ =>
  have L := lies_of (p := p) hΓ
  have d : A.depth + 1 ≤ recursionLimit := Nat.le_trans (Nat.succ_le_succ a.dp) (Nat.le_of_ble_eq_true hd)
  have u : A.units + 1 ≤ cLine := Nat.le_trans (Nat.succ_le_succ a.un) (Nat.le_of_ble_eq_true hu)
  x _ (fun own => L.near' d own) (fun own => L.over d own) (fun own => L.warm d own) (L.room u) h D Γ p hΓ
theorem e_own {a : Addr} {q : Option Value} {k : Obj → Sem α} {o : Obj} (j : Nat) (ha : a = ad X j) (ho : fd own j = some o) (x : WO X tb own c t A (k o) Q E) : WO X tb own c t A (.load a q k) Q E := fun h D => by
  subst ha; exact x_load (D.cell j o ho) (x h D)
theorem e_tab {a a' : Addr} {q : Option Value} {k : Obj → Sem α} {o : Obj} (ha : a = a') (ho : fd tb a' = some o) (x : WO X tb own c t A (k o) Q E) : WO X tb own c t A (.load a q k) Q E := fun h D => by
  subst ha; exact x_load (D.tab _ o ho) (x h D)
theorem e_base {a a' : Addr} {q : Option Value} {k : Obj → Sem α} {o : Obj} (ha : a = a') (ho : X.h₀.get? a' = some o) (hT : a' ∉ X.T) (x : WO X tb own c t A (k o) Q E) : WO X tb own c t A (.load a q k) Q E := fun h D => by
  subst ha; exact x_load (D.keep _ o ho hT) (x h D)
theorem Own3.alloc {h : Heap} (D : Own3 X tb own c h) {o : Obj} (hf : o.isFreed = false) (h97 : Nat.ble 97 c = true) : Own3 X tb ((c, o) :: own) (c + 1) (h.push o) := by
  refine ⟨fun b o' e q => Heap.get?_push_of_some _ (D.keep b o' e q), fun a o' e => Heap.get?_push_of_some _ (D.tab a o' e), D.tT, fun k o' e => ?_, fun k o' e => ?_, D.old, D.sz0, by rw [Heap.size_push, D.sz]; rfl⟩
  · rw [fd_cons] at e
    split at e
    · rename_i hk; cases e; rw [← hk, ← D.sz]; exact Heap.get?_push_size _ hf
    · exact Heap.get?_push_of_some _ (D.cell k o' e)
  · rw [fd_cons] at e
    split at e
    · rename_i hk; rw [← hk]; exact ⟨Nat.le_of_ble_eq_true h97, Nat.lt_succ_self _⟩
    · exact ⟨(D.lt k o' e).1, Nat.lt_succ_of_lt (D.lt k o' e).2⟩
theorem e_alloc {o o' : Obj} {c' : Nat} {k : Addr → Sem α} (ho : o = o') (hf : o'.isFreed = false) (h97 : Nat.ble 97 c = true) (hc : c + 1 = c') (x : WO X tb ((c, o') :: own) c' t A (k (ad X c)) Q E) : WO X tb own c t A (.alloc o k) Q E := fun h D => by
  subst ho hc
  refine wpAny_bind (m := alloc o) (f := k) (wpAny_alloc ?_)
  have z := x _ (D.alloc hf h97)
  rw [← D.sz] at z
  exact z
theorem ad_inj {j k : Nat} (h : ad X j = ad X k) : j = k := Nat.add_left_cancel h
theorem e_upd {a : Addr} {q : Option Value} {f : Obj → Obj} {k : Unit → Sem α} {o o' : Obj} (j : Nat) (ha : a = ad X j) (hm : fd own j = some o) (ho : f o = o') (hf : o'.isFreed = false)
    (x : WO X tb ((j, o') :: own) c t A (k ()) Q E) : WO X tb own c t A (.update a q f k) Q E := fun h D => by
  subst ha ho
  have z := D.cell j o hm
  have hs : Heap.SameBut (ad X j) h (h.update (ad X j) f) := Heap.SameBut.update ..
  have ge : (h.update (ad X j) f).get? (ad X j) = some (f o) := by first | exact Heap.get?_update_self f z hf | exact Heap.get?_update_self _ z hf
  have l0 : X.h₀.objs.size ≤ ad X j := by rw [D.sz0]; exact Nat.add_le_add_left (D.lt j o hm).1 _
  refine wpAny_bind (m := updatePart _ q f) (f := k) (wpAny_updatePart z (x _ ⟨fun b o' e q => (hs.2 b ?_).trans (D.keep b o' e q), fun a o' e => (hs.2 a ?_).trans (D.tab a o' e), D.tT, fun i o' e => ?_, fun i o' e => ?_, D.old, D.sz0, by rw [hs.1]; exact D.sz⟩))
  · rintro rfl; exact absurd (Heap.lt_size e) (Nat.not_lt_of_le l0)
  · rintro rfl; exact absurd (D.old _ (D.tT _ _ e)) (Nat.not_lt_of_le l0)
  · rw [fd_cons] at e
    split at e
    · rename_i hk; cases e; rw [← hk]; exact ge
    · rename_i hk; exact (hs.2 _ fun q => hk (ad_inj q).symm).trans (D.cell i o' e)
  · rw [fd_cons] at e
    split at e
    · rename_i hk; rw [← hk]; exact D.lt j o hm
    · exact D.lt i o' e
theorem e_updT {a a' : Addr} {q : Option Value} {f : Obj → Obj} {k : Unit → Sem α} {o o' : Obj} (ha : a = a') (hm : fd tb a' = some o) (ho : f o = o') (hf : o'.isFreed = false)
    (x : WO X ((a', o') :: tb) own c t A (k ()) Q E) : WO X tb own c t A (.update a q f k) Q E := fun h D => by
  subst ha ho
  have z := D.tab _ o hm
  have hs : Heap.SameBut a h (h.update a f) := Heap.SameBut.update ..
  have ge : (h.update a f).get? a = some (f o) := by first | exact Heap.get?_update_self f z hf | exact Heap.get?_update_self _ z hf
  have hT := D.tT _ _ hm
  have l0 : a < X.h₀.objs.size := D.old _ hT
  refine wpAny_bind (m := updatePart _ q f) (f := k) (wpAny_updatePart z (x _ ⟨fun b o' e q => (hs.2 b fun z => q (z ▸ hT)).trans (D.keep b o' e q), fun i o' e => ?_, fun i o' e => ?_, fun i o' e => (hs.2 _ fun q => ?_).trans (D.cell i o' e), D.lt, D.old, D.sz0, by rw [hs.1]; exact D.sz⟩))
  · rw [fd_cons] at e
    split at e
    · rename_i hk; cases e; rw [← hk]; exact ge
    · rename_i hk; exact (hs.2 _ fun q => hk q.symm).trans (D.tab i o' e)
  · rw [fd_cons] at e
    split at e
    · rename_i hk; rw [← hk]; exact hT
    · exact D.tT i o' e
  · have : X.h₀.objs.size ≤ ad X i := by rw [D.sz0]; exact Nat.add_le_add_left (D.lt i o' e).1 _
    rw [q] at this
    exact absurd l0 (Nat.not_lt_of_le this)
def QB (X : Cx) (A : Around) (f : β → Sem α) (Q : α → Shared → Prop) (E : Value → Shared → Prop) : β → Shared → Prop := fun a s' => wpAny (model X.prog X.w) A (f a) Q E s'
theorem e_bind {m : Sem β} {f : β → Sem α} (x : WO X tb own c t A m (QB X A f Q E) E) : WO X tb own c t A (R.bindR m f) Q E := fun h D => by
  rw [← R.bindR_eq]; exact wpAny_bind (x h D)
theorem e_catch {m : Sem α} {f : Value → Sem α} (x : WO X tb own c t A m Q (fun e s' => wpAny (model X.prog X.w) A (f e) Q E s')) : WO X tb own c t A (R.catchR m f) Q E := fun h D => by
  rw [← R.catchR_eq]; exact wpAny_tryCatch (x h D)
theorem e_onRaise {m : Sem α} {f : Value → Sem Unit} (x : WO X tb own c t A m Q (fun e s' => wpAny (model X.prog X.w) A (f e) (fun _ s'' => E e s'') E s')) : WO X tb own c t A (R.onRaiseR m f) Q E := fun h D => by
  rw [← R.onRaiseR_eq]; exact wpAny_onRaise (x h D)
theorem e_keep {m : Sem α} {vs : List Value} (x : WO X tb own c t A m Q E) : WO X tb own c t A (R.keepR vs m) Q E := fun h D => by
  rw [← R.keepR_eq]; exact Calls.wpAny_keep (x h D)
theorem e_pureB {A' : Around} {E' : Value → Shared → Prop} {a : β} {f : β → Sem α} (x : WO X tb own c t A (f a) Q E) : WO X tb own c t A' (Sem.pure a) (QB X A f Q E) E' := fun h D => wpAny_pure (x h D)
theorem e_end {a : α} (x : ∀ h, Own3 X tb own c h → Q a ⟨h, X.g, X.d, t, X.os⟩) : WO X tb own c t A (Sem.pure a) Q E := fun h D => wpAny_pure (x h D)
theorem e_call {cd : Code} {gg : Bool} {l : List Value} {k : Result → Sem α} (x : CO X tb own c t A cd (postA X.prog X.w A Q E k)) : WO X tb own c t A (.call cd none gg l k) Q E := fun h D => x_call (x h D) (fun h => by cases h)
theorem e_code {cd cd' : Code} {R : Result → Shared → Prop} (hc : cd = cd') (x : WO X tb own c t (A.under cd') (DX cd') (postC X.prog X.w A R) (postE R)) : CO X tb own c t A cd R := fun h D => by
  subst hc
  refine x_code ?_
  rw [DX_eq]
  exact wpAny_mono (x h D) (fun fin s' h' => by cases fin <;> exact h') fun _ _ h' => h'
theorem e_again {A' : Around} {R : Result → Shared → Prop} {c' : Code} {E : Value → Shared → Prop} (hq : c'.quiet = true) (x : CO X tb own c t A' c' R) : WO X tb own c t A (.pure (.again c')) (postC X.prog X.w A' R) E := fun h D => wpAny_pure ⟨hq, x h D⟩
theorem e_done {A' A'' : Around} {f : Flow} {E' : Value → Shared → Prop} {k : Result → Sem α} (x : WO X tb own c t A'' (k (.ok f)) Q E) : WO X tb own c t A (.pure (.done f)) (postC X.prog X.w A' (postA X.prog X.w A'' Q E k)) E' := fun h D => wpAny_pure (x h D)
theorem e_brT {b : Bool} {x y : Sem α} (e : b = true) (h' : WO X tb own c t A y Q E) : WO X tb own c t A (@Bool.rec (fun _ => Sem α) x y b) Q E := by subst e; exact h'
theorem e_brF {b : Bool} {x y : Sem α} (e : b = false) (h' : WO X tb own c t A x Q E) : WO X tb own c t A (@Bool.rec (fun _ => Sem α) x y b) Q E := by subst e; exact h'
theorem e_anyM {I : Monad Sem} {d : DecidableEq Value} {f : Value → Sem Bool} {l : List Value} {s' : String} {n : Nat} {Q : Bool → Shared → Prop} (e : l = [Value.ref n, Value.type s'])
    (fl : R.filterR (fun x => @bne Value (@instBEqOfDecidableEq Value d) x (Value.ref n)) [Value.ref n, Value.type s'] = [Value.type s'])
    (x : WO X tb own c t A (@List.anyM Sem I _ f [Value.type s']) Q E) : WO X tb own c t A (@List.anyM Sem I _ f (R.filterR (fun x => @bne Value (@instBEqOfDecidableEq Value d) x (Value.ref n)) l)) Q E := by
  subst e; rw [fl]; exact x
theorem nz_ad {a : Addr} {j : Nat} (e : a = ad X j) : a = ad X j := e
end
theorem nz_dict {o : Obj} {c : Value} {dd : Option Addr} {l l' : List DictEntry} {n n' : Nat} {sl : Array (Option Value)} (e : o = ⟨c, dd, .dict ⟨l⟩ n, sl⟩) (hl : l = l') (hn : n = n') : o = ⟨c, dd, .dict ⟨l'⟩ n', sl⟩ := by subst hl hn; exact e
theorem nz_seq {o : Obj} {c : Value} {dd : Option Addr} {l l' : List Value} {n n' : Nat} {sl : Array (Option Value)} (e : o = ⟨c, dd, .seq ⟨l⟩ n, sl⟩) (hl : l = l') (hn : n = n') : o = ⟨c, dd, .seq ⟨l'⟩ n', sl⟩ := by subst hl hn; exact e
theorem nz_fields {o : Obj} {c : Value} {dd : Option Addr} {l l' : List Value} {sl : Array (Option Value)} (e : o = ⟨c, dd, .fields ⟨l⟩, sl⟩) (hl : l = l') : o = ⟨c, dd, .fields ⟨l'⟩, sl⟩ := by subst hl; exact e
theorem nz_sl {o : Obj} {c : Value} {dd : Option Addr} {da : Data} {sl sl' : List (Option Value)} (e : o = ⟨c, dd, da, ⟨sl⟩⟩) (hs : sl = sl') : o = ⟨c, dd, da, ⟨sl'⟩⟩ := by subst hs; exact e
theorem nz_cell {o : Obj} {c : Value} {dd : Option Addr} {v v' : Option Value} {sl : Array (Option Value)} (e : o = ⟨c, dd, .cell v, sl⟩) (hv : v = v') : o = ⟨c, dd, .cell v', sl⟩ := by subst hv; exact e
theorem nz_ref {v : Value} {a a' : Addr} (e : v = .ref a) (ha : a = a') : v = .ref a' := by subst ha; exact e
theorem nz_some {β : Type} {v : Option β} {a a' : β} (e : v = some a) (ha : a = a') : v = some a' := by subst ha; exact e
theorem nz_pair {β γ : Type} {v : β × γ} {a : β} {b b' : γ} (e : v = (a, b)) (hb : b = b') : v = (a, b') := by subst hb; exact e
theorem nz_env {v : Env} {sc : Scope} {l l' g g' : Addr} {cs cs' : List (Str × Addr)} {q : Str} {f f' : Option Addr} {c c' : Value} {fr fr' : Option Addr} {b b' : Addr}
    (e : v = ⟨sc, l, g, cs, q, f, c, fr, b⟩) (hl : l = l') (hg : g = g') (hcs : cs = cs') (hf : f = f') (hc : c = c') (hfr : fr = fr') (hb : b = b') : v = ⟨sc, l', g', cs', q, f', c', fr', b'⟩ := by
  subst hl hg hcs hf hc hfr hb; exact e
theorem nz_cfunc {c : Code} {b : List Stmt} {v v' : Env} (e : c = .func b v) (h : v = v') : c = .func b v' := by subst h; exact e
theorem nz_cbody {c : Code} {b : List Stmt} {v v' : Env} (e : c = .body b v) (h : v = v') : c = .body b v' := by subst h; exact e
theorem nz_ccall {c : Code} {f f' : Value} {p p' : List Value} {k : List (Str × Value)} (e : c = .call f ⟨p, k⟩) (hf : f = f') (h : p = p') : c = .call f' ⟨p', k⟩ := by subst hf h; exact e
theorem nz_cbuiltin {c : Code} {i : String} {p p' : List Value} {k : List (Str × Value)} (e : c = .builtin i ⟨p, k⟩) (h : p = p') : c = .builtin i ⟨p', k⟩ := by subst h; exact e
theorem nz_func {o : Obj} {c : Value} {dd : Option Addr} {sl : Array (Option Value)} {nm qn qn' : Str} {ps : Arguments} {b : FuncBody} {sc : Scope} {g g' : Addr} {cl cl' : List (Str × Addr)} {df df' kd kd' dc dc' pm pm' : Value} {an an' : Option Addr} {cd cd' ct ct' : Value} {bu bu' : Addr}
    (e : o = ⟨c, dd, .func ⟨nm, qn, ps, b, sc, g, cl, df, kd, dc, pm, an, cd, ct, bu⟩, sl⟩) (hqn : qn = qn') (hg : g = g') (hcl : cl = cl') (hdf : df = df') (hkd : kd = kd') (hdc : dc = dc') (hpm : pm = pm') (han : an = an') (hcd : cd = cd') (hct : ct = ct') (hbu : bu = bu') :
    o = ⟨c, dd, .func ⟨nm, qn', ps, b, sc, g', cl', df', kd', dc', pm', an', cd', ct', bu'⟩, sl⟩ := by
  subst hqn hg hcl hdf hkd hdc hpm han hcd hct hbu; exact e
theorem nz_cls {o : Obj} {cl cl' : Value} {dd : Option Addr} {nm nm' : Str} {bs bs' mr mr' : List Value} {ns ns' : Addr} {qn qn' : Str} {hd hd' : Bool} {sn sn' : List Str} {sc sc' : List Value} {ab : Bool} {co : Option Bool} {hl hl' : Bool} {sl : List (Option Value)}
    (e : o = ⟨cl, dd, .cls ⟨nm, bs, mr, ns, qn, hd, sn, sc, ab, co, hl⟩, ⟨sl⟩⟩) (hcl : cl = cl') (hnm : nm = nm') (hqn : qn = qn') (hbs : bs = bs') (hmr : mr = mr') (hns : ns = ns') (hhd : hd = hd') (hsn : sn = sn') (hsc : sc = sc') (hhl : hl = hl') :
    o = ⟨cl', dd, .cls ⟨nm', bs', mr', ns', qn', hd', sn', sc', ab, co, hl'⟩, ⟨sl⟩⟩ := by
  subst hcl hnm hqn hbs hmr hns hhd hsn hsc hhl; exact e
theorem elem_self {d : DecidableEq Value} {n : Nat} {l : List Value} : @R.elemR Value (@instBEqOfDecidableEq Value d) (.ref n) (.ref n :: l) = true := by
  have e : (@BEq.beq Value (@instBEqOfDecidableEq Value d) (.ref n) (.ref n)) = true := beq_self_eq_true _
  show @Bool.rec (fun _ => Bool) (R.elemR _ _) true _ = true
  rw [e]
theorem drop_self {d : DecidableEq Value} {v : Value} {n : Nat} {s : String} {l : List Value} (ev : v = .ref n) (e : l = [.ref n, .type s]) : List.drop 1 (List.dropWhile (fun x => @bne Value (@instBEqOfDecidableEq Value d) x v) l) = [.type s] := by
  subst ev e
  rw [List.dropWhile_cons_of_neg (by simp [bne])]
  rfl
theorem flt_self {d : DecidableEq Value} {n : Nat} {s : String} : R.filterR (fun x => @bne Value (@instBEqOfDecidableEq Value d) x (Value.ref n)) [Value.ref n, Value.type s] = [Value.type s] := by
  rw [← R.filterR_eq]
  rw [List.filter_cons_of_neg (by simp [bne])]
  rw [List.filter_cons_of_pos (by simp [bne])]
  rfl
theorem nz_nil {β : Type} {l : List β} (e : l = []) : l = [] := e
theorem nz_cons {β : Type} {l xs xs' : List β} {x x' : β} (e : l = x :: xs) (hx : x = x') (h : xs = xs') : l = x' :: xs' := by subst hx h; exact e
theorem nz_ent {x : DictEntry} {a a' : Int} {b b' c c' : Value} (e : x = ⟨a, b, c⟩) (ha : a = a') (hb : b = b') (hc : c = c') : x = ⟨a', b', c'⟩ := by subst ha hb hc; exact e

end
open PySem.W.X
local macro_rules | `(tactic| wtm_at "mine n_w") => `(tactic| first | (conv => lhs; whnf) | exact rfl)
local macro_rules | `(tactic| wtm_at "mine n_proj") => `(tactic| first | (conv => lhs; dsimp only) | exact rfl)
local macro_rules | `(tactic| wtm_at "mine n_addr") => `(tactic| first
  | ((refine' nz_ad ?e); (case e => exact rfl))
  | wtm_at "mine n_w")
local macro_rules | `(tactic| wtm_at "mine n_val") => `(tactic| first
  | ((refine' nz_ref ?e ?ha); (case e => exact rfl); (case ha => wtm_at "mine n_addr"))
  | wtm_at "mine n_w")
local macro_rules | `(tactic| wtm_at "mine n_oad") => `(tactic| first
  | ((refine' nz_some ?e ?ha); (case e => exact rfl); (case ha => wtm_at "mine n_addr"))
  | wtm_at "mine n_w")
local macro_rules | `(tactic| wtm_at "mine n_oval") => `(tactic| first
  | ((refine' nz_some ?e ?ha); (case e => exact rfl); (case ha => wtm_at "mine n_val"))
  | wtm_at "mine n_w")
local macro_rules | `(tactic| wtm_at "mine n_ent") => `(tactic| first
  | ((refine' nz_ent ?e ?ha ?hb ?hc); (case e => exact rfl); (case ha => wtm_at "mine n_w"); (case hb => wtm_at "mine n_w"); (case hc => wtm_at "mine n_val"))
  | ((refine' nz_pair ?e ?hb); (case e => exact rfl); (case hb => wtm_at "mine n_addr"))
  | wtm_at "mine n_val")
local macro_rules | `(tactic| wtm_at "mine n_list") => `(tactic| first
  | (refine nz_nil ?_; exact rfl)
  | ((refine' nz_cons ?e ?hx ?h); (case e => exact rfl); (case hx => wtm_at "mine n_ent"); (case h => wtm_at "mine n_list")))
local macro_rules | `(tactic| wtm_at "mine n_env") => `(tactic| ((refine' nz_env ?e ?hl ?hg ?hcs ?hf ?hc ?hfr ?hb); (case e => exact rfl); (case hl => wtm_at "mine n_addr"); (case hg => wtm_at "mine n_addr"); (case hcs => wtm_at "mine n_list"); (case hf => wtm_at "mine n_oad"); (case hc => wtm_at "mine n_val"); (case hfr => wtm_at "mine n_oad"); (case hb => wtm_at "mine n_addr")))
local macro_rules | `(tactic| wtm_at "mine n_code") => `(tactic| first
  | ((refine' nz_cbuiltin ?e ?h); (case e => exact rfl); (case h => wtm_at "mine n_list"))
  | ((refine' nz_ccall ?e ?hf ?h); (case e => exact rfl); (case hf => wtm_at "mine n_val"); (case h => wtm_at "mine n_list"))
  | ((refine' nz_cfunc ?e ?h); (case e => exact rfl); (case h => wtm_at "mine n_env"))
  | ((refine' nz_cbody ?e ?h); (case e => exact rfl); (case h => wtm_at "mine n_env"))
  | exact rfl)
local macro_rules | `(tactic| wtm_at "mine n_slots") => `(tactic| first
  | (refine nz_nil ?_; exact rfl)
  | ((refine' nz_cons ?e ?hx ?h); (case e => exact rfl); (case hx => wtm_at "mine n_oval"); (case h => wtm_at "mine n_slots")))
local macro_rules | `(tactic| wtm_at "mine n_obj0") => `(tactic| first
  | ((refine' nz_dict ?e ?hl ?hn); (case e => exact rfl); (case hl => wtm_at "mine n_list"); (case hn => wtm_at "mine n_w"))
  | ((refine' nz_seq ?e ?hl ?hn); (case e => exact rfl); (case hl => wtm_at "mine n_list"); (case hn => wtm_at "mine n_w"))
  | ((refine' nz_fields ?e ?hl); (case e => exact rfl); (case hl => wtm_at "mine n_list"))
  | ((refine' nz_func ?e ?hqn ?hg ?hcl ?hdf ?hkd ?hdc ?hpm ?han ?hcd ?hct ?hbu); (case e => exact rfl); (case hqn => wtm_at "mine n_w"); (case hg => wtm_at "mine n_addr"); (case hcl => wtm_at "mine n_list"); (case hdf => wtm_at "mine n_val"); (case hkd => wtm_at "mine n_val"); (case hdc => wtm_at "mine n_val"); (case hpm => wtm_at "mine n_val"); (case han => wtm_at "mine n_oad"); (case hcd => wtm_at "mine n_val"); (case hct => wtm_at "mine n_val"); (case hbu => wtm_at "mine n_addr"))
  | ((refine' nz_cls ?e ?hcl ?hnm ?hqn ?hbs ?hmr ?hns ?hhd ?hsn ?hsc ?hhl); (case e => exact rfl); (case hcl => wtm_at "mine n_val"); (case hnm => wtm_at "mine n_proj"); (case hqn => wtm_at "mine n_proj"); (case hbs => wtm_at "mine n_list"); (case hmr => wtm_at "mine n_list"); (case hns => wtm_at "mine n_addr"); (case hhd => wtm_at "mine n_w"); (case hsn => wtm_at "mine n_list"); (case hsc => wtm_at "mine n_list"); (case hhl => first | ((show _ = false); kernel_rfl!) | wtm_at "mine n_w"))
  | ((refine' nz_cell ?e ?hv); (case e => exact rfl); (case hv => wtm_at "mine n_oval"))
  | wtm_at "mine n_w")
local macro_rules | `(tactic| wtm_at "mine n_obj") => `(tactic| first
  | ((refine' nz_sl ?e ?hs); (case e => wtm_at "mine n_obj0"); (case hs => wtm_at "mine n_slots"))
  | wtm_at "mine n_obj0")
local macro_rules | `(tactic| wtm_at "mine gw") => `(tactic| conv => arg 7; whnf)
local macro_rules | `(tactic| wtm_at "mine g_ak") => `(tactic| first
  | with_reducible assumption
  | ((with_reducible refine' AK.under ?a ?hw ?hv); (case a => wtm_at "mine g_ak"); (case hw => kernel_rfl!); (case hv => kernel_rfl!)))
set_option hygiene false in
local macro_rules | `(tactic| wtm_at "mine g_st") => `(tactic| ((with_reducible refine' e_stack ?a ?hd ?hu ?_); (case a => wtm_at "mine g_ak"); (case hd => kernel_rfl!); (case hu => kernel_rfl!); intro st L1 L2 L3 L4))

open PySem.W.X
/-! the same rules, the tree told by what it is a part of -/
/-- one stretch of what looks at nothing -/
noncomputable abbrev skS {α : Type} (S : Setting) (ih : Sem α → Sem α) (t : Sem α) : Sem α :=
  @Sem.casesOn α (fun _ => Sem α) t (fun a => Sem.pure a) (fun e => Sem.raise e) (fun w => Sem.unsupported w) (fun e => Sem.finish e) (fun _ k => ih (k ())) (fun _ k => ih (k ())) (fun a p k => Sem.load a p k) (fun a p f k => Sem.update a p f k) (fun o k => Sem.alloc o k) (fun a k => Sem.loadIfAlive a k) (fun _ k => ih (k ())) (fun a k => Sem.register a k) (fun k => Sem.fresh k) (fun k => ih (k S)) (fun s n k => Sem.choose s n k) (fun q l k => Sem.os q l k) (fun c h g l k => Sem.call c h g l k) (fun o k => Sem.handled o k) (fun c k => Sem.newGen c k) (fun g k => Sem.genState g k) (fun g r l k => Sem.resume g r l k) (fun v g l k => Sem.yield v g l k) (fun k => Sem.stack k) (fun c k => Sem.fork c k) (fun k => Sem.thread k) (fun a f t l k => Sem.await a f t l k)
noncomputable def skN {α : Type} (S : Setting) (n : Nat) : Sem α → Sem α := @Nat.rec (fun _ => Sem α → Sem α) (fun t => t) (fun _ ih => skS S ih) n
noncomputable def sk {α : Type} (X : Cx) (e : Sem α) : Sem α := skN ⟨X.prog, X.w.params⟩ 400 e
theorem e_sk {α : Type} {X : Cx} {tb own : Hist} {c t : Nat} {A : Around} {Q : α → Shared → Prop} {E : Value → Shared → Prop} : ∀ (n : Nat) {e : Sem α}, WO X tb own c t A (skN ⟨X.prog, X.w.params⟩ n e) Q E → WO X tb own c t A e Q E
  | 0, _, x => x
  | n + 1, e, x => by
    cases e with
    | rule a k => exact fun h D => x_rule (e_sk n x h D)
    | «at» a k => exact fun h D => x_at (e_sk n x h D)
    | point a k => exact fun h D => x_point (e_sk n x h D)
    | ask k => exact fun h D => x_ask (e_sk n x h D)
    | _ => exact x
noncomputable abbrev pA {α : Type} (t : Sem α) : Option Addr := @Sem.casesOn α (fun _ => Option Addr) t (fun _ => none) (fun _ => none) (fun _ => none) (fun _ => none) (fun _ _ => none) (fun _ _ => none) (fun a _ _ => some a) (fun _ _ _ _ => none) (fun _ _ => none) (fun _ _ => none) (fun _ _ => none) (fun _ _ => none) (fun _ => none) (fun _ => none) (fun _ _ _ => none) (fun _ _ _ => none) (fun _ _ _ _ _ => none) (fun _ _ => none) (fun _ _ => none) (fun _ _ => none) (fun _ _ _ _ => none) (fun _ _ _ _ => none) (fun _ => none) (fun _ _ => none) (fun _ => none) (fun _ _ _ _ _ => none)
noncomputable abbrev pK {α : Type} (t : Sem α) : Obj → Sem α := @Sem.casesOn α (fun _ => Obj → Sem α) t (fun _ => fun _ => .unsupported "") (fun _ => fun _ => .unsupported "") (fun _ => fun _ => .unsupported "") (fun _ => fun _ => .unsupported "") (fun _ _ => fun _ => .unsupported "") (fun _ _ => fun _ => .unsupported "") (fun _ _ k => k) (fun _ _ _ _ => fun _ => .unsupported "") (fun _ _ => fun _ => .unsupported "") (fun _ _ => fun _ => .unsupported "") (fun _ _ => fun _ => .unsupported "") (fun _ _ => fun _ => .unsupported "") (fun _ => fun _ => .unsupported "") (fun _ => fun _ => .unsupported "") (fun _ _ _ => fun _ => .unsupported "") (fun _ _ _ => fun _ => .unsupported "") (fun _ _ _ _ _ => fun _ => .unsupported "") (fun _ _ => fun _ => .unsupported "") (fun _ _ => fun _ => .unsupported "") (fun _ _ => fun _ => .unsupported "") (fun _ _ _ _ => fun _ => .unsupported "") (fun _ _ _ _ => fun _ => .unsupported "") (fun _ => fun _ => .unsupported "") (fun _ _ => fun _ => .unsupported "") (fun _ => fun _ => .unsupported "") (fun _ _ _ _ _ => fun _ => .unsupported "")
noncomputable abbrev pUA {α : Type} (t : Sem α) : Option Addr := @Sem.casesOn α (fun _ => Option Addr) t (fun _ => none) (fun _ => none) (fun _ => none) (fun _ => none) (fun _ _ => none) (fun _ _ => none) (fun _ _ _ => none) (fun a _ _ _ => some a) (fun _ _ => none) (fun _ _ => none) (fun _ _ => none) (fun _ _ => none) (fun _ => none) (fun _ => none) (fun _ _ _ => none) (fun _ _ _ => none) (fun _ _ _ _ _ => none) (fun _ _ => none) (fun _ _ => none) (fun _ _ => none) (fun _ _ _ _ => none) (fun _ _ _ _ => none) (fun _ => none) (fun _ _ => none) (fun _ => none) (fun _ _ _ _ _ => none)
noncomputable abbrev pUF {α : Type} (t : Sem α) : Obj → Obj := @Sem.casesOn α (fun _ => Obj → Obj) t (fun _ => id) (fun _ => id) (fun _ => id) (fun _ => id) (fun _ _ => id) (fun _ _ => id) (fun _ _ _ => id) (fun _ _ f _ => f) (fun _ _ => id) (fun _ _ => id) (fun _ _ => id) (fun _ _ => id) (fun _ => id) (fun _ => id) (fun _ _ _ => id) (fun _ _ _ => id) (fun _ _ _ _ _ => id) (fun _ _ => id) (fun _ _ => id) (fun _ _ => id) (fun _ _ _ _ => id) (fun _ _ _ _ => id) (fun _ => id) (fun _ _ => id) (fun _ => id) (fun _ _ _ _ _ => id)
noncomputable abbrev pUK {α : Type} (t : Sem α) : Sem α := @Sem.casesOn α (fun _ => Sem α) t (fun _ => .unsupported "") (fun _ => .unsupported "") (fun _ => .unsupported "") (fun _ => .unsupported "") (fun _ _ => .unsupported "") (fun _ _ => .unsupported "") (fun _ _ _ => .unsupported "") (fun _ _ _ k => k ()) (fun _ _ => .unsupported "") (fun _ _ => .unsupported "") (fun _ _ => .unsupported "") (fun _ _ => .unsupported "") (fun _ => .unsupported "") (fun _ => .unsupported "") (fun _ _ _ => .unsupported "") (fun _ _ _ => .unsupported "") (fun _ _ _ _ _ => .unsupported "") (fun _ _ => .unsupported "") (fun _ _ => .unsupported "") (fun _ _ => .unsupported "") (fun _ _ _ _ => .unsupported "") (fun _ _ _ _ => .unsupported "") (fun _ => .unsupported "") (fun _ _ => .unsupported "") (fun _ => .unsupported "") (fun _ _ _ _ _ => .unsupported "")
noncomputable abbrev pO {α : Type} (t : Sem α) : Option Obj := @Sem.casesOn α (fun _ => Option Obj) t (fun _ => none) (fun _ => none) (fun _ => none) (fun _ => none) (fun _ _ => none) (fun _ _ => none) (fun _ _ _ => none) (fun _ _ _ _ => none) (fun o _ => some o) (fun _ _ => none) (fun _ _ => none) (fun _ _ => none) (fun _ => none) (fun _ => none) (fun _ _ _ => none) (fun _ _ _ => none) (fun _ _ _ _ _ => none) (fun _ _ => none) (fun _ _ => none) (fun _ _ => none) (fun _ _ _ _ => none) (fun _ _ _ _ => none) (fun _ => none) (fun _ _ => none) (fun _ => none) (fun _ _ _ _ _ => none)
noncomputable abbrev pOK {α : Type} (t : Sem α) : Addr → Sem α := @Sem.casesOn α (fun _ => Addr → Sem α) t (fun _ => fun _ => .unsupported "") (fun _ => fun _ => .unsupported "") (fun _ => fun _ => .unsupported "") (fun _ => fun _ => .unsupported "") (fun _ _ => fun _ => .unsupported "") (fun _ _ => fun _ => .unsupported "") (fun _ _ _ => fun _ => .unsupported "") (fun _ _ _ _ => fun _ => .unsupported "") (fun _ k => k) (fun _ _ => fun _ => .unsupported "") (fun _ _ => fun _ => .unsupported "") (fun _ _ => fun _ => .unsupported "") (fun _ => fun _ => .unsupported "") (fun _ => fun _ => .unsupported "") (fun _ _ _ => fun _ => .unsupported "") (fun _ _ _ => fun _ => .unsupported "") (fun _ _ _ _ _ => fun _ => .unsupported "") (fun _ _ => fun _ => .unsupported "") (fun _ _ => fun _ => .unsupported "") (fun _ _ => fun _ => .unsupported "") (fun _ _ _ _ => fun _ => .unsupported "") (fun _ _ _ _ => fun _ => .unsupported "") (fun _ => fun _ => .unsupported "") (fun _ _ => fun _ => .unsupported "") (fun _ => fun _ => .unsupported "") (fun _ _ _ _ _ => fun _ => .unsupported "")
noncomputable abbrev pF {α : Type} (t : Sem α) : Bool := @Sem.casesOn α (fun _ => Bool) t (fun _ => false) (fun _ => false) (fun _ => false) (fun _ => false) (fun _ _ => false) (fun _ _ => false) (fun _ _ _ => false) (fun _ _ _ _ => false) (fun _ _ => false) (fun _ _ => false) (fun _ _ => false) (fun _ _ => false) (fun _ => true) (fun _ => false) (fun _ _ _ => false) (fun _ _ _ => false) (fun _ _ _ _ _ => false) (fun _ _ => false) (fun _ _ => false) (fun _ _ => false) (fun _ _ _ _ => false) (fun _ _ _ _ => false) (fun _ => false) (fun _ _ => false) (fun _ => false) (fun _ _ _ _ _ => false)
noncomputable abbrev pFK {α : Type} (t : Sem α) : Tok → Sem α := @Sem.casesOn α (fun _ => Tok → Sem α) t (fun _ => fun _ => .unsupported "") (fun _ => fun _ => .unsupported "") (fun _ => fun _ => .unsupported "") (fun _ => fun _ => .unsupported "") (fun _ _ => fun _ => .unsupported "") (fun _ _ => fun _ => .unsupported "") (fun _ _ _ => fun _ => .unsupported "") (fun _ _ _ _ => fun _ => .unsupported "") (fun _ _ => fun _ => .unsupported "") (fun _ _ => fun _ => .unsupported "") (fun _ _ => fun _ => .unsupported "") (fun _ _ => fun _ => .unsupported "") (fun k => k) (fun _ => fun _ => .unsupported "") (fun _ _ _ => fun _ => .unsupported "") (fun _ _ _ => fun _ => .unsupported "") (fun _ _ _ _ _ => fun _ => .unsupported "") (fun _ _ => fun _ => .unsupported "") (fun _ _ => fun _ => .unsupported "") (fun _ _ => fun _ => .unsupported "") (fun _ _ _ _ => fun _ => .unsupported "") (fun _ _ _ _ => fun _ => .unsupported "") (fun _ => fun _ => .unsupported "") (fun _ _ => fun _ => .unsupported "") (fun _ => fun _ => .unsupported "") (fun _ _ _ _ _ => fun _ => .unsupported "")
noncomputable abbrev pC {α : Type} (t : Sem α) : Option Code := @Sem.casesOn α (fun _ => Option Code) t (fun _ => none) (fun _ => none) (fun _ => none) (fun _ => none) (fun _ _ => none) (fun _ _ => none) (fun _ _ _ => none) (fun _ _ _ _ => none) (fun _ _ => none) (fun _ _ => none) (fun _ _ => none) (fun _ _ => none) (fun _ => none) (fun _ => none) (fun _ _ _ => none) (fun _ _ _ => none) (fun c h _ _ _ => match h with | none => some c | some _ => none) (fun _ _ => none) (fun _ _ => none) (fun _ _ => none) (fun _ _ _ _ => none) (fun _ _ _ _ => none) (fun _ => none) (fun _ _ => none) (fun _ => none) (fun _ _ _ _ _ => none)
noncomputable abbrev pCK {α : Type} (t : Sem α) : Result → Sem α := @Sem.casesOn α (fun _ => Result → Sem α) t (fun _ => fun _ => .unsupported "") (fun _ => fun _ => .unsupported "") (fun _ => fun _ => .unsupported "") (fun _ => fun _ => .unsupported "") (fun _ _ => fun _ => .unsupported "") (fun _ _ => fun _ => .unsupported "") (fun _ _ _ => fun _ => .unsupported "") (fun _ _ _ _ => fun _ => .unsupported "") (fun _ _ => fun _ => .unsupported "") (fun _ _ => fun _ => .unsupported "") (fun _ _ => fun _ => .unsupported "") (fun _ _ => fun _ => .unsupported "") (fun _ => fun _ => .unsupported "") (fun _ => fun _ => .unsupported "") (fun _ _ _ => fun _ => .unsupported "") (fun _ _ _ => fun _ => .unsupported "") (fun _ _ _ _ k => k) (fun _ _ => fun _ => .unsupported "") (fun _ _ => fun _ => .unsupported "") (fun _ _ => fun _ => .unsupported "") (fun _ _ _ _ => fun _ => .unsupported "") (fun _ _ _ _ => fun _ => .unsupported "") (fun _ => fun _ => .unsupported "") (fun _ _ => fun _ => .unsupported "") (fun _ => fun _ => .unsupported "") (fun _ _ _ _ _ => fun _ => .unsupported "")
noncomputable abbrev pP {α : Type} (t : Sem α) : Option α := @Sem.casesOn α (fun _ => Option α) t (fun a => some a) (fun _ => none) (fun _ => none) (fun _ => none) (fun _ _ => none) (fun _ _ => none) (fun _ _ _ => none) (fun _ _ _ _ => none) (fun _ _ => none) (fun _ _ => none) (fun _ _ => none) (fun _ _ => none) (fun _ => none) (fun _ => none) (fun _ _ _ => none) (fun _ _ _ => none) (fun _ _ _ _ _ => none) (fun _ _ => none) (fun _ _ => none) (fun _ _ => none) (fun _ _ _ _ => none) (fun _ _ _ _ => none) (fun _ => none) (fun _ _ => none) (fun _ => none) (fun _ _ _ _ _ => none)
noncomputable abbrev pD (t : Sem PySem.Fin) : Option Flow := match pP t with
  | some (.done f) => some f
  | _ => none
noncomputable abbrev pG (t : Sem PySem.Fin) : Option Code := match pP t with
  | some (.again c) => some c
  | _ => none
section
variable {α β : Type} {X : Cx} {tb own : Hist} {c t : Nat} {A : Around} {Q : α → Shared → Prop} {E : Value → Shared → Prop} {e : Sem α}
theorem f_own {o : Obj} (j : Nat) (h : pA (sk X e) = some (ad X j)) (ho : fd own j = some o) (x : WO X tb own c t A (pK (sk X e) o) Q E) : WO X tb own c t A e Q E := by
  refine e_sk 400 ?_
  revert h x; show pA (sk X e) = _ → WO _ _ _ _ _ _ (pK (sk X e) _) _ _ → WO _ _ _ _ _ _ (sk X e) _ _
  generalize sk X e = s
  intro h x
  cases s <;> first | exact e_own j (Option.some.inj h) ho x | (cases h)
theorem f_tab {o : Obj} {a₀ a : Addr} (h : pA (sk X e) = some a₀) (ha : a₀ = a) (ho : fd tb a = some o) (x : WO X tb own c t A (pK (sk X e) o) Q E) : WO X tb own c t A e Q E := by
  refine e_sk 400 ?_
  revert h x; show pA (sk X e) = _ → WO _ _ _ _ _ _ (pK (sk X e) _) _ _ → WO _ _ _ _ _ _ (sk X e) _ _
  generalize sk X e = s
  intro h x
  cases s <;> first | exact e_tab ((Option.some.inj h).trans ha) ho x | (cases h)
theorem f_base {o : Obj} {a₀ a : Addr} (h : pA (sk X e) = some a₀) (ha : a₀ = a) (ho : X.h₀.get? a = some o) (hT : a ∉ X.T) (x : WO X tb own c t A (pK (sk X e) o) Q E) : WO X tb own c t A e Q E := by
  refine e_sk 400 ?_
  revert h x; show pA (sk X e) = _ → WO _ _ _ _ _ _ (pK (sk X e) _) _ _ → WO _ _ _ _ _ _ (sk X e) _ _
  generalize sk X e = s
  intro h x
  cases s <;> first | exact e_base ((Option.some.inj h).trans ha) ho hT x | (cases h)
theorem f_upd {o o₁ o' : Obj} (j : Nat) (h : pUA (sk X e) = some (ad X j)) (ho : fd own j = some o) (hf : pUF (sk X e) o = o₁) (hn : o₁ = o') (hr : o'.isFreed = false) (x : WO X tb ((j, o') :: own) c t A (pUK (sk X e)) Q E) : WO X tb own c t A e Q E := by
  subst hn
  refine e_sk 400 ?_
  revert h x hf; show pUA (sk X e) = _ → pUF (sk X e) _ = _ → WO _ _ _ _ _ _ (pUK (sk X e)) _ _ → WO _ _ _ _ _ _ (sk X e) _ _
  generalize sk X e = s
  intro h hf x
  cases s <;> first | exact e_upd j (Option.some.inj h) ho hf hr x | (cases h)
theorem f_updT {o o₁ o' : Obj} {a : Addr} (h : pUA (sk X e) = some a) (ho : fd tb a = some o) (hf : pUF (sk X e) o = o₁) (hn : o₁ = o') (hr : o'.isFreed = false) (x : WO X ((a, o') :: tb) own c t A (pUK (sk X e)) Q E) : WO X tb own c t A e Q E := by
  subst hn
  refine e_sk 400 ?_
  revert h x hf; show pUA (sk X e) = _ → pUF (sk X e) _ = _ → WO _ _ _ _ _ _ (pUK (sk X e)) _ _ → WO _ _ _ _ _ _ (sk X e) _ _
  generalize sk X e = s
  intro h hf x
  cases s <;> first | exact e_updT (Option.some.inj h) ho hf hr x | (cases h)
theorem f_alloc {o o' : Obj} {c' : Nat} (h : pO (sk X e) = some o) (ho : o = o') (hr : o'.isFreed = false) (h97 : Nat.ble 97 c = true) (hc : c + 1 = c') (x : WO X tb ((c, o') :: own) c' t A (pOK (sk X e) (ad X c)) Q E) : WO X tb own c t A e Q E := by
  refine e_sk 400 ?_
  revert h x; show pO (sk X e) = _ → WO _ _ _ _ _ _ (pOK (sk X e) _) _ _ → WO _ _ _ _ _ _ (sk X e) _ _
  generalize sk X e = s
  intro h x
  cases s <;> first | exact e_alloc ((Option.some.inj h).trans ho) hr h97 hc x | (cases h)
theorem f_fresh (h : pF (sk X e) = true) (x : WO X tb own c t.succ A (pFK (sk X e) t) Q E) : WO X tb own c t A e Q E := by
  refine e_sk 400 ?_
  revert h x; show pF (sk X e) = _ → WO _ _ _ _ _ _ (pFK (sk X e) _) _ _ → WO _ _ _ _ _ _ (sk X e) _ _
  generalize sk X e = s
  intro h x
  cases s <;> first | exact e_fresh x | (cases h)
theorem f_call {cd cd' : Code} (h : pC (sk X e) = some cd) (hc : cd = cd') (x : WO X tb own c t (A.under cd') (DX cd') (postC X.prog X.w A (postA X.prog X.w A Q E (pCK (sk X e)))) (postE (postA X.prog X.w A Q E (pCK (sk X e))))) : WO X tb own c t A e Q E := by
  refine e_sk 400 ?_
  have y : CO X tb own c t A cd (postA X.prog X.w A Q E (pCK (sk X e))) := e_code hc x
  clear x
  revert h y; show pC (sk X e) = _ → CO _ _ _ _ _ _ _ (postA _ _ _ _ _ (pCK (sk X e))) → WO _ _ _ _ _ _ (sk X e) _ _
  generalize sk X e = s
  intro h y
  cases s with
  | call c₀ hd g l k =>
    cases hd with
    | none => cases Option.some.inj h; exact e_call y
    | some v => cases h
  | _ => cases h
theorem f_done {A' A'' : Around} {f : Flow} {e : Sem PySem.Fin} {E' : Value → Shared → Prop} {k : Result → Sem α} (h : pD (sk X e) = some f) (x : WO X tb own c t A'' (k (.ok f)) Q E) : WO X tb own c t A e (postC X.prog X.w A' (postA X.prog X.w A'' Q E k)) E' := by
  refine e_sk 400 ?_
  revert h; show pD (sk X e) = _ → WO _ _ _ _ _ _ (sk X e) _ _
  generalize sk X e = s
  intro h
  cases s with
  | pure fin =>
    cases fin with
    | done f => cases Option.some.inj h; exact e_done x
    | again => cases h
  | _ => cases h
theorem f_again {A' : Around} {R : Result → Shared → Prop} {c₀ c' : Code} {e : Sem PySem.Fin} {E' : Value → Shared → Prop} (h : pG (sk X e) = some c₀) (hc : c₀ = c') (hq : c'.quiet = true) (x : WO X tb own c t (A'.under c') (DX c') (postC X.prog X.w A' R) (postE R)) : WO X tb own c t A e (postC X.prog X.w A' R) E' := by
  refine e_sk 400 ?_
  have y : CO X tb own c t A' c₀ R := e_code hc x
  clear x
  subst hc
  revert h; show pG (sk X e) = _ → WO _ _ _ _ _ _ (sk X e) _ _
  generalize sk X e = s
  intro h
  cases s with
  | pure fin =>
    cases fin with
    | done f => cases h
    | again => cases Option.some.inj h; exact e_again hq y
  | _ => cases h
theorem f_pureB {A' : Around} {E' : Value → Shared → Prop} {a : β} {f : β → Sem α} {e : Sem β} (h : pP (sk X e) = some a) (x : WO X tb own c t A (f a) Q E) : WO X tb own c t A' e (QB X A f Q E) E' := by
  refine e_sk 400 ?_
  revert h; show pP (sk X e) = _ → WO _ _ _ _ _ _ (sk X e) _ _
  generalize sk X e = s
  intro h
  cases s with
  | pure v => cases Option.some.inj h; exact e_pureB x
  | _ => cases h
theorem f_end {a : α} (h : pP (sk X e) = some a) (x : ∀ h, Own3 X tb own c h → Q a ⟨h, X.g, X.d, t, X.os⟩) : WO X tb own c t A e Q E := by
  refine e_sk 400 ?_
  revert h; show pP (sk X e) = _ → WO _ _ _ _ _ _ (sk X e) _ _
  generalize sk X e = s
  intro h
  cases s with
  | pure v => cases Option.some.inj h; exact e_end x
  | _ => cases h
end
/-! one step told by its tree's part; the tree itself is checked by the kernel alone -/
local macro_rules | `(tactic| wtm_at "mine q_al") => `(tactic| ((with_reducible refine' f_alloc ?h ?ho ?hf ?h97 ?hc ?_); (case h => exact rfl); (case ho => wtm_at "mine n_obj"); (case hf => exact rfl); (case h97 => exact rfl); (case hc => wtm_at "mine n_w")))
local macro_rules | `(tactic| wtm_at "mine q_upr") => `(tactic| ((case h => kernel_rfl); (case ho => exact rfl); (case hf => exact rfl); (case hn => wtm_at "mine n_obj"); (case hr => exact rfl)))
local macro_rules | `(tactic| wtm_at "mine q_fr") => `(tactic| ((with_reducible refine' f_fresh ?h ?_); (case h => kernel_rfl)))
local macro_rules | `(tactic| wtm_at "mine q_cc") => `(tactic| ((with_reducible refine' f_call ?h ?hc ?_); (case h => exact rfl); (case hc => wtm_at "mine n_code")))
local macro_rules | `(tactic| wtm_at "mine q_dn") => `(tactic| ((with_reducible refine' f_done ?h ?_); (case h => exact rfl)))
local macro_rules | `(tactic| wtm_at "mine q_ag") => `(tactic| ((with_reducible refine' f_again ?h ?hc ?hq ?_); (case h => exact rfl); (case hc => wtm_at "mine n_code"); (case hq => kernel_rfl!)))
local macro_rules | `(tactic| wtm_at "mine q_pu") => `(tactic| ((with_reducible refine' f_pureB ?h ?_); (case h => exact rfl)))
/-- the tree as it stands, written out -/
local macro_rules | `(tactic| wtm_at "mine ck") => `(tactic| ((try (conv => arg 7; arg 1; whnf)); (try (with_reducible (conv => arg 7; whnf)))))
local macro_rules | `(tactic| wtm_at "mine q_st") => `(tactic| (refine e_sk 400 ?_; wtm_at "mine gw"; wtm_at "mine g_st"))
local macro_rules | `(tactic| wtm_at "mine q_hn") => `(tactic| (refine e_sk 400 ?_; wtm_at "mine gw"; (with_reducible refine' e_handled ?a ?_); (case a => wtm_at "mine g_ak")))
local macro_rules | `(tactic| wtm_at "mine q_bT") => `(tactic| (wtm_at "mine gw"; (with_reducible refine' e_brT ?e ?_); (case e => first | kernel_rfl! | exact elem_self)))
local macro_rules | `(tactic| wtm_at "mine q_bF") => `(tactic| (wtm_at "mine gw"; (with_reducible refine' e_brF ?e ?_); (case e => kernel_rfl!)))

section
open PySem.W.X
abbrev Pr := PySem.Challenge.pw_ij0010_01
def defBody : Stmt → List Stmt
  | .FunctionDef (body := b) .. => b
  | _ => []
def defArgs : Stmt → Arguments
  | .FunctionDef (args := b) .. => b
  | _ => default
def defScope : Stmt → Scope
  | .FunctionDef (scope := b) .. => b
  | _ => default
def clsB : Stmt → List Stmt
  | .ClassDef (body := b) .. => b
  | _ => []
def topStmt (i : Nat) : Stmt := (Pr.main.body[i]?).getD (.Pass default)
def bodyOf (n : Nat) : List Stmt := defBody (topStmt n)
/-! what the start heap holds, as far as it is looked at (printed by a tool) -/
noncomputable def zo0 (P : Params) : Obj := (Obj.mk (Value.type SZ.s14018661285674007319x4) (Option.none) (Data.dict (List.toArray [(DictEntry.mk (PyData.keyHash P (Str.ofString "__name__")) (Value.str (Str.ofString "__name__") 1) (Value.str (Str.ofString "builtins") 160)), (DictEntry.mk (PyData.keyHash P (Str.ofString "__doc__")) (Value.str (Str.ofString "__doc__") 2) (Value.builtin "builtins.__doc__:str#opaque")), (DictEntry.mk (PyData.keyHash P (Str.ofString "__package__")) (Value.str (Str.ofString "__package__") 3) (Value.builtin "builtins.__package__:str#opaque")), (DictEntry.mk (PyData.keyHash P (Str.ofString "__loader__")) (Value.str (Str.ofString "__loader__") 4) (Value.builtin "builtins.__loader__:shared#opaque")), (DictEntry.mk (PyData.keyHash P (Str.ofString "__spec__")) (Value.str (Str.ofString "__spec__") 5) (Value.builtin SZ.s11665532747177232413x24)), (DictEntry.mk (PyData.keyHash P (Str.ofString "__build_class__")) (Value.str (Str.ofString "__build_class__") 6) (Value.builtin SZ.s15183661809925369436x15)), (DictEntry.mk (PyData.keyHash P (Str.ofString "__import__")) (Value.str (Str.ofString "__import__") 7) (Value.builtin SZ.s13915890719876406383x10)), (DictEntry.mk (PyData.keyHash P (Str.ofString "abs")) (Value.str (Str.ofString "abs") 8) (Value.builtin SZ.s13459172003223722735x3)), (DictEntry.mk (PyData.keyHash P (Str.ofString "all")) (Value.str (Str.ofString "all") 9) (Value.builtin SZ.s10557405761357834076x3)), (DictEntry.mk (PyData.keyHash P (Str.ofString "any")) (Value.str (Str.ofString "any") 10) (Value.builtin SZ.s4233737765568776869x3)), (DictEntry.mk (PyData.keyHash P (Str.ofString "ascii")) (Value.str (Str.ofString "ascii") 11) (Value.builtin SZ.s2508922471967985374x5)), (DictEntry.mk (PyData.keyHash P (Str.ofString "bin")) (Value.str (Str.ofString "bin") 12) (Value.builtin SZ.s15574269061696679450x3)), (DictEntry.mk (PyData.keyHash P (Str.ofString "breakpoint")) (Value.str (Str.ofString "breakpoint") 13) (Value.builtin SZ.s6016482663378992977x10)), (DictEntry.mk (PyData.keyHash P (Str.ofString "callable")) (Value.str (Str.ofString "callable") 14) (Value.builtin SZ.s5596568736180474577x8)), (DictEntry.mk (PyData.keyHash P (Str.ofString "chr")) (Value.str (Str.ofString "chr") 15) (Value.builtin SZ.s2839554839881490554x3)), (DictEntry.mk (PyData.keyHash P (Str.ofString "compile")) (Value.str (Str.ofString "compile") 16) (Value.builtin SZ.s725004073602090463x7)), (DictEntry.mk (PyData.keyHash P (Str.ofString "delattr")) (Value.str (Str.ofString "delattr") 17) (Value.builtin SZ.s9436932552931045734x7)), (DictEntry.mk (PyData.keyHash P (Str.ofString "dir")) (Value.str (Str.ofString "dir") 18) (Value.builtin SZ.s2754603736356183583x3)), (DictEntry.mk (PyData.keyHash P (Str.ofString "divmod")) (Value.str (Str.ofString "divmod") 19) (Value.builtin SZ.s15185746759980889043x6)), (DictEntry.mk (PyData.keyHash P (Str.ofString "eval")) (Value.str (Str.ofString "eval") 20) (Value.builtin SZ.s8192189862530294059x4)), (DictEntry.mk (PyData.keyHash P (Str.ofString "exec")) (Value.str (Str.ofString "exec") 21) (Value.builtin SZ.s7038307821325472102x4)), (DictEntry.mk (PyData.keyHash P (Str.ofString "format")) (Value.str (Str.ofString "format") 22) (Value.builtin SZ.s5662562618415449548x6)), (DictEntry.mk (PyData.keyHash P (Str.ofString "getattr")) (Value.str (Str.ofString "getattr") 23) (Value.builtin SZ.s15281542589158584767x7)), (DictEntry.mk (PyData.keyHash P (Str.ofString "globals")) (Value.str (Str.ofString "globals") 24) (Value.builtin SZ.s17651547275483570877x7)), (DictEntry.mk (PyData.keyHash P (Str.ofString "hasattr")) (Value.str (Str.ofString "hasattr") 25) (Value.builtin SZ.s4036449017235975746x7)), (DictEntry.mk (PyData.keyHash P (Str.ofString "hash")) (Value.str (Str.ofString "hash") 26) (Value.builtin SZ.s8879979712987360175x4)), (DictEntry.mk (PyData.keyHash P (Str.ofString "hex")) (Value.str (Str.ofString "hex") 27) (Value.builtin SZ.s1801250619170735830x3)), (DictEntry.mk (PyData.keyHash P (Str.ofString "id")) (Value.str (Str.ofString "id") 28) (Value.builtin SZ.s17659931425627118568x2)), (DictEntry.mk (PyData.keyHash P (Str.ofString "input")) (Value.str (Str.ofString "input") 29) (Value.builtin SZ.s6063217899685152688x5)), (DictEntry.mk (PyData.keyHash P (Str.ofString "isinstance")) (Value.str (Str.ofString "isinstance") 30) (Value.builtin SZ.s8008927332132565319x10)), (DictEntry.mk (PyData.keyHash P (Str.ofString "issubclass")) (Value.str (Str.ofString "issubclass") 31) (Value.builtin SZ.s3544116645089599534x10)), (DictEntry.mk (PyData.keyHash P (Str.ofString "iter")) (Value.str (Str.ofString "iter") 32) (Value.builtin SZ.s13761710972054866084x4)), (DictEntry.mk (PyData.keyHash P (Str.ofString "aiter")) (Value.str (Str.ofString "aiter") 33) (Value.builtin SZ.s12896375587409280029x5)), (DictEntry.mk (PyData.keyHash P (Str.ofString "len")) (Value.str (Str.ofString "len") 34) (Value.builtin SZ.s13014049009108672802x3)), (DictEntry.mk (PyData.keyHash P (Str.ofString "locals")) (Value.str (Str.ofString "locals") 35) (Value.builtin SZ.s13935586738268321596x6)), (DictEntry.mk (PyData.keyHash P (Str.ofString "max")) (Value.str (Str.ofString "max") 36) (Value.builtin SZ.s8200498257699607233x3)), (DictEntry.mk (PyData.keyHash P (Str.ofString "min")) (Value.str (Str.ofString "min") 37) (Value.builtin SZ.s14114244577727609259x3)), (DictEntry.mk (PyData.keyHash P (Str.ofString "next")) (Value.str (Str.ofString "next") 38) (Value.builtin SZ.s1499430450269397089x4)), (DictEntry.mk (PyData.keyHash P (Str.ofString "anext")) (Value.str (Str.ofString "anext") 39) (Value.builtin SZ.s8755793994789770505x5)), (DictEntry.mk (PyData.keyHash P (Str.ofString "oct")) (Value.str (Str.ofString "oct") 40) (Value.builtin SZ.s15725212667919936108x3)), (DictEntry.mk (PyData.keyHash P (Str.ofString "ord")) (Value.str (Str.ofString "ord") 41) (Value.builtin SZ.s15791221867095933363x3)), (DictEntry.mk (PyData.keyHash P (Str.ofString "pow")) (Value.str (Str.ofString "pow") 42) (Value.builtin SZ.s81309575031448614x3)), (DictEntry.mk (PyData.keyHash P (Str.ofString "print")) (Value.str (Str.ofString "print") 43) (Value.builtin SZ.s8069831620301644142x5)), (DictEntry.mk (PyData.keyHash P (Str.ofString "repr")) (Value.str (Str.ofString "repr") 44) (Value.builtin SZ.s10061844253413749634x4)), (DictEntry.mk (PyData.keyHash P (Str.ofString "round")) (Value.str (Str.ofString "round") 45) (Value.builtin SZ.s9496514870978017513x5)), (DictEntry.mk (PyData.keyHash P (Str.ofString "setattr")) (Value.str (Str.ofString "setattr") 46) (Value.builtin SZ.s8899691144933366716x7)), (DictEntry.mk (PyData.keyHash P (Str.ofString "sorted")) (Value.str (Str.ofString "sorted") 47) (Value.builtin SZ.s15201008993051130160x6)), (DictEntry.mk (PyData.keyHash P (Str.ofString "sum")) (Value.str (Str.ofString "sum") 48) (Value.builtin SZ.s741896355592496720x3)), (DictEntry.mk (PyData.keyHash P (Str.ofString "vars")) (Value.str (Str.ofString "vars") 49) (Value.builtin SZ.s17925004256654032244x4)), (DictEntry.mk (PyData.keyHash P (Str.ofString "None")) (Value.str (Str.ofString "None") 50) Value.none), (DictEntry.mk (PyData.keyHash P (Str.ofString "Ellipsis")) (Value.str (Str.ofString "Ellipsis") 51) Value.ellipsis), (DictEntry.mk (PyData.keyHash P (Str.ofString "NotImplemented")) (Value.str (Str.ofString "NotImplemented") 52) Value.notImplemented), (DictEntry.mk (PyData.keyHash P (Str.ofString "False")) (Value.str (Str.ofString "False") 53) (Value.bool Bool.false)), (DictEntry.mk (PyData.keyHash P (Str.ofString "True")) (Value.str (Str.ofString "True") 54) (Value.bool Bool.true)), (DictEntry.mk (PyData.keyHash P (Str.ofString "bool")) (Value.str (Str.ofString "bool") 55) (Value.type SZ.s11695548795398191787x4)), (DictEntry.mk (PyData.keyHash P (Str.ofString "memoryview")) (Value.str (Str.ofString "memoryview") 56) (Value.type SZ.s4156966113859768872x10)), (DictEntry.mk (PyData.keyHash P (Str.ofString "bytearray")) (Value.str (Str.ofString "bytearray") 57) (Value.type SZ.s9501651726347032510x9)), (DictEntry.mk (PyData.keyHash P (Str.ofString "bytes")) (Value.str (Str.ofString "bytes") 58) (Value.type SZ.s15722918466584999320x5)), (DictEntry.mk (PyData.keyHash P (Str.ofString "classmethod")) (Value.str (Str.ofString "classmethod") 59) (Value.type SZ.s591115383303110208x11)), (DictEntry.mk (PyData.keyHash P (Str.ofString "complex")) (Value.str (Str.ofString "complex") 60) (Value.type SZ.s15721156781594690315x7)), (DictEntry.mk (PyData.keyHash P (Str.ofString "dict")) (Value.str (Str.ofString "dict") 61) (Value.type SZ.s14018661285674007319x4)), (DictEntry.mk (PyData.keyHash P (Str.ofString "enumerate")) (Value.str (Str.ofString "enumerate") 62) (Value.type SZ.s14340494229221121180x9)), (DictEntry.mk (PyData.keyHash P (Str.ofString "filter")) (Value.str (Str.ofString "filter") 63) (Value.type SZ.s13429844117177748173x6)), (DictEntry.mk (PyData.keyHash P (Str.ofString "float")) (Value.str (Str.ofString "float") 64) (Value.type SZ.s16463266125957815391x5)), (DictEntry.mk (PyData.keyHash P (Str.ofString "frozenset")) (Value.str (Str.ofString "frozenset") 65) (Value.type SZ.s4922535414793169389x9)), (DictEntry.mk (PyData.keyHash P (Str.ofString "property")) (Value.str (Str.ofString "property") 66) (Value.type SZ.s8101838861749082086x8)), (DictEntry.mk (PyData.keyHash P (Str.ofString "int")) (Value.str (Str.ofString "int") 67) (Value.type SZ.s7066276694103001551x3)), (DictEntry.mk (PyData.keyHash P (Str.ofString "list")) (Value.str (Str.ofString "list") 68) (Value.type SZ.s9222952809800978799x4)), (DictEntry.mk (PyData.keyHash P (Str.ofString "map")) (Value.str (Str.ofString "map") 69) (Value.type SZ.s462964344163437139x3)), (DictEntry.mk (PyData.keyHash P (Str.ofString "object")) (Value.str (Str.ofString "object") 70) (Value.type SZ.s2742458400755230247x6)), (DictEntry.mk (PyData.keyHash P (Str.ofString "range")) (Value.str (Str.ofString "range") 71) (Value.type SZ.s1438033511350832697x5)), (DictEntry.mk (PyData.keyHash P (Str.ofString "reversed")) (Value.str (Str.ofString "reversed") 72) (Value.type SZ.s14365286008749172514x8)), (DictEntry.mk (PyData.keyHash P (Str.ofString "set")) (Value.str (Str.ofString "set") 73) (Value.type SZ.s3642769012341782148x3)), (DictEntry.mk (PyData.keyHash P (Str.ofString "slice")) (Value.str (Str.ofString "slice") 74) (Value.type SZ.s4674234679698826739x5)), (DictEntry.mk (PyData.keyHash P (Str.ofString "staticmethod")) (Value.str (Str.ofString "staticmethod") 75) (Value.type SZ.s16656946322747308186x12)), (DictEntry.mk (PyData.keyHash P (Str.ofString "str")) (Value.str (Str.ofString "str") 76) (Value.type SZ.s10796804682411823810x3)), (DictEntry.mk (PyData.keyHash P (Str.ofString "super")) (Value.str (Str.ofString "super") 77) (Value.type SZ.s4290257624100764138x5)), (DictEntry.mk (PyData.keyHash P (Str.ofString "tuple")) (Value.str (Str.ofString "tuple") 78) (Value.type SZ.s2766695959194262286x5)), (DictEntry.mk (PyData.keyHash P (Str.ofString "type")) (Value.str (Str.ofString "type") 79) (Value.type SZ.s17162191345867700912x4)), (DictEntry.mk (PyData.keyHash P (Str.ofString "zip")) (Value.str (Str.ofString "zip") 80) (Value.type SZ.s14339709457334898076x3)), (DictEntry.mk (PyData.keyHash P (Str.ofString "__debug__")) (Value.str (Str.ofString "__debug__") 81) (Value.bool Bool.true)), (DictEntry.mk (PyData.keyHash P (Str.ofString "BaseException")) (Value.str (Str.ofString "BaseException") 82) (Value.type SZ.s4278001404047624695x13)), (DictEntry.mk (PyData.keyHash P (Str.ofString "BaseExceptionGroup")) (Value.str (Str.ofString "BaseExceptionGroup") 83) (Value.type SZ.s6585700554429387442x18)), (DictEntry.mk (PyData.keyHash P (Str.ofString "Exception")) (Value.str (Str.ofString "Exception") 84) (Value.type SZ.s5946037652744460706x9)), (DictEntry.mk (PyData.keyHash P (Str.ofString "GeneratorExit")) (Value.str (Str.ofString "GeneratorExit") 85) (Value.type SZ.s7410770068591931388x13)), (DictEntry.mk (PyData.keyHash P (Str.ofString "KeyboardInterrupt")) (Value.str (Str.ofString "KeyboardInterrupt") 86) (Value.type SZ.s11817881795495490833x17)), (DictEntry.mk (PyData.keyHash P (Str.ofString "SystemExit")) (Value.str (Str.ofString "SystemExit") 87) (Value.type SZ.s15679963881808890155x10)), (DictEntry.mk (PyData.keyHash P (Str.ofString "ArithmeticError")) (Value.str (Str.ofString "ArithmeticError") 88) (Value.type SZ.s3871700062485845797x15)), (DictEntry.mk (PyData.keyHash P (Str.ofString "AssertionError")) (Value.str (Str.ofString "AssertionError") 89) (Value.type SZ.s7689518266570723881x14)), (DictEntry.mk (PyData.keyHash P (Str.ofString "AttributeError")) (Value.str (Str.ofString "AttributeError") 90) (Value.type SZ.s9001593270443806431x14)), (DictEntry.mk (PyData.keyHash P (Str.ofString "BufferError")) (Value.str (Str.ofString "BufferError") 91) (Value.type SZ.s6882542574934516792x11)), (DictEntry.mk (PyData.keyHash P (Str.ofString "EOFError")) (Value.str (Str.ofString "EOFError") 92) (Value.type SZ.s14403400214490484960x8)), (DictEntry.mk (PyData.keyHash P (Str.ofString "ImportError")) (Value.str (Str.ofString "ImportError") 93) (Value.type SZ.s14457978657717015782x11)), (DictEntry.mk (PyData.keyHash P (Str.ofString "LookupError")) (Value.str (Str.ofString "LookupError") 94) (Value.type SZ.s1753610191782819921x11)), (DictEntry.mk (PyData.keyHash P (Str.ofString "MemoryError")) (Value.str (Str.ofString "MemoryError") 95) (Value.type SZ.s14119380538032626715x11)), (DictEntry.mk (PyData.keyHash P (Str.ofString "NameError")) (Value.str (Str.ofString "NameError") 96) (Value.type SZ.s11437920000406562045x9)), (DictEntry.mk (PyData.keyHash P (Str.ofString "OSError")) (Value.str (Str.ofString "OSError") 97) (Value.type SZ.s10852414792293593619x7)), (DictEntry.mk (PyData.keyHash P (Str.ofString "ReferenceError")) (Value.str (Str.ofString "ReferenceError") 98) (Value.type SZ.s14816307405966870543x14)), (DictEntry.mk (PyData.keyHash P (Str.ofString "RuntimeError")) (Value.str (Str.ofString "RuntimeError") 99) (Value.type SZ.s8682627914449686677x12)), (DictEntry.mk (PyData.keyHash P (Str.ofString "StopAsyncIteration")) (Value.str (Str.ofString "StopAsyncIteration") 100) (Value.type SZ.s4428170145600203450x18)), (DictEntry.mk (PyData.keyHash P (Str.ofString "StopIteration")) (Value.str (Str.ofString "StopIteration") 101) (Value.type SZ.s5991306692159431302x13)), (DictEntry.mk (PyData.keyHash P (Str.ofString "SyntaxError")) (Value.str (Str.ofString "SyntaxError") 102) (Value.type SZ.s16067994140765818257x11)), (DictEntry.mk (PyData.keyHash P (Str.ofString "SystemError")) (Value.str (Str.ofString "SystemError") 103) (Value.type SZ.s2327743974964600596x11)), (DictEntry.mk (PyData.keyHash P (Str.ofString "TypeError")) (Value.str (Str.ofString "TypeError") 104) (Value.type SZ.s2804747833354056582x9)), (DictEntry.mk (PyData.keyHash P (Str.ofString "ValueError")) (Value.str (Str.ofString "ValueError") 105) (Value.type SZ.s6070975301684473832x10)), (DictEntry.mk (PyData.keyHash P (Str.ofString "Warning")) (Value.str (Str.ofString "Warning") 106) (Value.type SZ.s14270485950484850486x7)), (DictEntry.mk (PyData.keyHash P (Str.ofString "FloatingPointError")) (Value.str (Str.ofString "FloatingPointError") 107) (Value.type SZ.s12041534306414923332x18)), (DictEntry.mk (PyData.keyHash P (Str.ofString "OverflowError")) (Value.str (Str.ofString "OverflowError") 108) (Value.type SZ.s2531307568338490285x13)), (DictEntry.mk (PyData.keyHash P (Str.ofString "ZeroDivisionError")) (Value.str (Str.ofString "ZeroDivisionError") 109) (Value.type SZ.s631175304937289666x17)), (DictEntry.mk (PyData.keyHash P (Str.ofString "BytesWarning")) (Value.str (Str.ofString "BytesWarning") 110) (Value.type SZ.s5144983644357021410x12)), (DictEntry.mk (PyData.keyHash P (Str.ofString "DeprecationWarning")) (Value.str (Str.ofString "DeprecationWarning") 111) (Value.type SZ.s18039099521571816885x18)), (DictEntry.mk (PyData.keyHash P (Str.ofString "EncodingWarning")) (Value.str (Str.ofString "EncodingWarning") 112) (Value.type SZ.s6011586214260557989x15)), (DictEntry.mk (PyData.keyHash P (Str.ofString "FutureWarning")) (Value.str (Str.ofString "FutureWarning") 113) (Value.type SZ.s5430567037509283100x13)), (DictEntry.mk (PyData.keyHash P (Str.ofString "ImportWarning")) (Value.str (Str.ofString "ImportWarning") 114) (Value.type SZ.s8117915138073963741x13)), (DictEntry.mk (PyData.keyHash P (Str.ofString "PendingDeprecationWarning")) (Value.str (Str.ofString "PendingDeprecationWarning") 115) (Value.type SZ.s3423317712779056401x25)), (DictEntry.mk (PyData.keyHash P (Str.ofString "ResourceWarning")) (Value.str (Str.ofString "ResourceWarning") 116) (Value.type SZ.s2007317383269046180x15)), (DictEntry.mk (PyData.keyHash P (Str.ofString "RuntimeWarning")) (Value.str (Str.ofString "RuntimeWarning") 117) (Value.type SZ.s17481586968713580700x14)), (DictEntry.mk (PyData.keyHash P (Str.ofString "SyntaxWarning")) (Value.str (Str.ofString "SyntaxWarning") 118) (Value.type SZ.s2450899226349176912x13)), (DictEntry.mk (PyData.keyHash P (Str.ofString "UnicodeWarning")) (Value.str (Str.ofString "UnicodeWarning") 119) (Value.type SZ.s16626165730633575011x14)), (DictEntry.mk (PyData.keyHash P (Str.ofString "UserWarning")) (Value.str (Str.ofString "UserWarning") 120) (Value.type SZ.s14288496050688921416x11)), (DictEntry.mk (PyData.keyHash P (Str.ofString "BlockingIOError")) (Value.str (Str.ofString "BlockingIOError") 121) (Value.type SZ.s5735081916595925998x15)), (DictEntry.mk (PyData.keyHash P (Str.ofString "ChildProcessError")) (Value.str (Str.ofString "ChildProcessError") 122) (Value.type SZ.s3865607918536308442x17)), (DictEntry.mk (PyData.keyHash P (Str.ofString "ConnectionError")) (Value.str (Str.ofString "ConnectionError") 123) (Value.type SZ.s13337502604062700212x15)), (DictEntry.mk (PyData.keyHash P (Str.ofString "FileExistsError")) (Value.str (Str.ofString "FileExistsError") 124) (Value.type SZ.s13114017843053701147x15)), (DictEntry.mk (PyData.keyHash P (Str.ofString "FileNotFoundError")) (Value.str (Str.ofString "FileNotFoundError") 125) (Value.type SZ.s17467278006356818441x17)), (DictEntry.mk (PyData.keyHash P (Str.ofString "InterruptedError")) (Value.str (Str.ofString "InterruptedError") 126) (Value.type SZ.s17722149559621369488x16)), (DictEntry.mk (PyData.keyHash P (Str.ofString "IsADirectoryError")) (Value.str (Str.ofString "IsADirectoryError") 127) (Value.type SZ.s7855274175708717672x17)), (DictEntry.mk (PyData.keyHash P (Str.ofString "NotADirectoryError")) (Value.str (Str.ofString "NotADirectoryError") 128) (Value.type SZ.s13351283678309829046x18)), (DictEntry.mk (PyData.keyHash P (Str.ofString "PermissionError")) (Value.str (Str.ofString "PermissionError") 129) (Value.type SZ.s6668348653404991179x15)), (DictEntry.mk (PyData.keyHash P (Str.ofString "ProcessLookupError")) (Value.str (Str.ofString "ProcessLookupError") 130) (Value.type SZ.s12913350958174193794x18)), (DictEntry.mk (PyData.keyHash P (Str.ofString "TimeoutError")) (Value.str (Str.ofString "TimeoutError") 131) (Value.type SZ.s16115879512475548326x12)), (DictEntry.mk (PyData.keyHash P (Str.ofString "IndentationError")) (Value.str (Str.ofString "IndentationError") 132) (Value.type SZ.s15920661018069861047x16)), (DictEntry.mk (PyData.keyHash P (Str.ofString "_IncompleteInputError")) (Value.str (Str.ofString "_IncompleteInputError") 133) (Value.type SZ.s10779130036587390575x21)), (DictEntry.mk (PyData.keyHash P (Str.ofString "IndexError")) (Value.str (Str.ofString "IndexError") 134) (Value.type SZ.s7801419657504700863x10)), (DictEntry.mk (PyData.keyHash P (Str.ofString "KeyError")) (Value.str (Str.ofString "KeyError") 135) (Value.type SZ.s1688129525768580628x8)), (DictEntry.mk (PyData.keyHash P (Str.ofString "ModuleNotFoundError")) (Value.str (Str.ofString "ModuleNotFoundError") 136) (Value.type SZ.s1031832959479892071x19)), (DictEntry.mk (PyData.keyHash P (Str.ofString "NotImplementedError")) (Value.str (Str.ofString "NotImplementedError") 137) (Value.type SZ.s8991790508128307865x19)), (DictEntry.mk (PyData.keyHash P (Str.ofString "PythonFinalizationError")) (Value.str (Str.ofString "PythonFinalizationError") 138) (Value.type SZ.s14539662485746970245x23)), (DictEntry.mk (PyData.keyHash P (Str.ofString "RecursionError")) (Value.str (Str.ofString "RecursionError") 139) (Value.type SZ.s11643622729373238714x14)), (DictEntry.mk (PyData.keyHash P (Str.ofString "UnboundLocalError")) (Value.str (Str.ofString "UnboundLocalError") 140) (Value.type SZ.s3386828779285465597x17)), (DictEntry.mk (PyData.keyHash P (Str.ofString "UnicodeError")) (Value.str (Str.ofString "UnicodeError") 141) (Value.type SZ.s13042696260734638735x12)), (DictEntry.mk (PyData.keyHash P (Str.ofString "BrokenPipeError")) (Value.str (Str.ofString "BrokenPipeError") 142) (Value.type SZ.s18239426817015966623x15)), (DictEntry.mk (PyData.keyHash P (Str.ofString "ConnectionAbortedError")) (Value.str (Str.ofString "ConnectionAbortedError") 143) (Value.type SZ.s1270395311379034370x22)), (DictEntry.mk (PyData.keyHash P (Str.ofString "ConnectionRefusedError")) (Value.str (Str.ofString "ConnectionRefusedError") 144) (Value.type SZ.s10696252587037064777x22)), (DictEntry.mk (PyData.keyHash P (Str.ofString "ConnectionResetError")) (Value.str (Str.ofString "ConnectionResetError") 145) (Value.type SZ.s7852717498200857586x20)), (DictEntry.mk (PyData.keyHash P (Str.ofString "TabError")) (Value.str (Str.ofString "TabError") 146) (Value.type SZ.s6377248116197321094x8)), (DictEntry.mk (PyData.keyHash P (Str.ofString "UnicodeDecodeError")) (Value.str (Str.ofString "UnicodeDecodeError") 147) (Value.type SZ.s3834378056692298002x18)), (DictEntry.mk (PyData.keyHash P (Str.ofString "UnicodeEncodeError")) (Value.str (Str.ofString "UnicodeEncodeError") 148) (Value.type SZ.s17586630440231065808x18)), (DictEntry.mk (PyData.keyHash P (Str.ofString "UnicodeTranslateError")) (Value.str (Str.ofString "UnicodeTranslateError") 149) (Value.type SZ.s15234114252648025395x21)), (DictEntry.mk (PyData.keyHash P (Str.ofString "ExceptionGroup")) (Value.str (Str.ofString "ExceptionGroup") 150) (Value.type SZ.s8496462677383758984x14)), (DictEntry.mk (PyData.keyHash P (Str.ofString "EnvironmentError")) (Value.str (Str.ofString "EnvironmentError") 151) (Value.type SZ.s10852414792293593619x7)), (DictEntry.mk (PyData.keyHash P (Str.ofString "IOError")) (Value.str (Str.ofString "IOError") 152) (Value.type SZ.s10852414792293593619x7)), (DictEntry.mk (PyData.keyHash P (Str.ofString "open")) (Value.str (Str.ofString "open") 153) (Value.builtin SZ.s16789243406116112673x4)), (DictEntry.mk (PyData.keyHash P (Str.ofString "quit")) (Value.str (Str.ofString "quit") 154) (Value.builtin SZ.s14400166428656793546x20)), (DictEntry.mk (PyData.keyHash P (Str.ofString "exit")) (Value.str (Str.ofString "exit") 155) (Value.builtin SZ.s5857708277339239366x20)), (DictEntry.mk (PyData.keyHash P (Str.ofString "copyright")) (Value.str (Str.ofString "copyright") 156) (Value.builtin "builtins.copyright#opaque")), (DictEntry.mk (PyData.keyHash P (Str.ofString "credits")) (Value.str (Str.ofString "credits") 157) (Value.builtin "builtins.credits#opaque")), (DictEntry.mk (PyData.keyHash P (Str.ofString "license")) (Value.str (Str.ofString "license") 158) (Value.builtin "builtins.license#opaque")), (DictEntry.mk (PyData.keyHash P (Str.ofString "help")) (Value.str (Str.ofString "help") 159) (Value.builtin SZ.s7804999707787243718x20))]) 159) (List.toArray []))
noncomputable def zo2 (_ : Params) : Obj := (Obj.mk Value.none (Option.none) (Data.dict (List.toArray []) 0) (List.toArray []))
noncomputable def zo3 (P : Params) : Obj := (Obj.mk (Value.type SZ.s14018661285674007319x4) (Option.none) (Data.dict (List.toArray [(DictEntry.mk (PyData.keyHash P (Str.ofString "__name__")) (Value.str (Str.ofString "__name__") 165) (Value.str (Str.ofString "law_ij0010_01") 226)), (DictEntry.mk (PyData.keyHash P (Str.ofString "__doc__")) (Value.str (Str.ofString "__doc__") 166) Value.none), (DictEntry.mk (PyData.keyHash P (Str.ofString "__package__")) (Value.str (Str.ofString "__package__") 167) Value.none), (DictEntry.mk (PyData.keyHash P (Str.ofString "__loader__")) (Value.str (Str.ofString "__loader__") 168) (Value.builtin SZ.s7097527257260152453x26)), (DictEntry.mk (PyData.keyHash P (Str.ofString "__spec__")) (Value.str (Str.ofString "__spec__") 169) Value.none), (DictEntry.mk (PyData.keyHash P (Str.ofString "__annotations__")) (Value.str (Str.ofString "__annotations__") 170) (Value.ref 6)), (DictEntry.mk (PyData.keyHash P (Str.ofString "__builtins__")) (Value.str (Str.ofString "__builtins__") 171) (Value.ref 4)), (DictEntry.mk (PyData.keyHash P (Str.ofString "__file__")) (Value.str (Str.ofString "__file__") 173) (Value.str (Str.ofString "/claim/cut.py") 172)), (DictEntry.mk (PyData.keyHash P (Str.ofString "__cached__")) (Value.str (Str.ofString "__cached__") 174) Value.none), (DictEntry.mk (PyData.keyHash P (Str.ofString "cmp_to_key")) (Value.str (Str.ofString "cmp_to_key") 197) (Value.ref 21)), (DictEntry.mk (PyData.keyHash P (Str.ofString "_initial_missing")) (Value.str (Str.ofString "_initial_missing") 198) (Value.ref 22)), (DictEntry.mk (PyData.keyHash P (Str.ofString "reduce")) (Value.str (Str.ofString "reduce") 210) (Value.ref 30)), (DictEntry.mk (PyData.keyHash P (Str.ofString "search_reverse")) (Value.str (Str.ofString "search_reverse") 225) (Value.ref 37)), (DictEntry.mk (PyData.keyHash P (Str.ofString "_law_visit")) (Value.str (Str.ofString "_law_visit") 239) (Value.ref 44)), (DictEntry.mk (PyData.keyHash P (Str.ofString "_law_visits")) (Value.str (Str.ofString "_law_visits") 251) (Value.ref 51)), (DictEntry.mk (PyData.keyHash P (Str.ofString "_law_hours")) (Value.str (Str.ofString "_law_hours") 261) (Value.ref 58)), (DictEntry.mk (PyData.keyHash P (Str.ofString "_law_program")) (Value.str (Str.ofString "_law_program") 273) (Value.ref 65)), (DictEntry.mk (PyData.keyHash P (Str.ofString "_law_lately")) (Value.str (Str.ofString "_law_lately") 284) (Value.ref 72)), (DictEntry.mk (PyData.keyHash P (Str.ofString "_law_to_front")) (Value.str (Str.ofString "_law_to_front") 290) (Value.ref 77)), (DictEntry.mk (PyData.keyHash P (Str.ofString "_law_five")) (Value.str (Str.ofString "_law_five") 298) (Value.ref 84)), (DictEntry.mk (PyData.keyHash P (Str.ofString "_law_fives")) (Value.str (Str.ofString "_law_fives") 309) (Value.ref 91)), (DictEntry.mk (PyData.keyHash P (Str.ofString "law")) (Value.str (Str.ofString "law") 315) (Value.ref 96))]) 22) (List.toArray []))
noncomputable def zo4 (_ : Params) : Obj := (Obj.mk (Value.type SZ.s6658869562736209489x6) (Option.some 0) Data.plain (List.toArray []))
noncomputable def zo16 (_ : Params) : Obj := (Obj.mk Value.none (Option.none) (Data.fields (List.toArray [])) (List.toArray []))
noncomputable def zo20 (_ : Params) : Obj := (Obj.mk (Value.type SZ.s5856160107412720595x4) (Option.none) (Data.fields (List.toArray [(Value.str (Str.ofString "cmp_to_key") 189), (Value.str (Str.ofString "cmp_to_key") 190), (Value.str (Str.ofString "/claim/cut.py") 191), (Value.int 2 0), (Value.int 1 0), (Value.int 0 0), (Value.int 0 0), (Value.int 3 0), (Value.ref 15), (Value.bool Bool.true), (Value.int 181 0), (Value.ref 16), Value.none, (Value.ref 17), (Value.ref 18), (Value.ref 19), (Value.int 195 0), (Value.int 2 0), (Value.str (Str.ofString "/claim/cut.py") 196)])) (List.toArray []))
noncomputable def zo21 (_ : Params) : Obj := (Obj.mk (Value.type SZ.s7174869446012820540x8) (Option.none) (Data.func (FuncData.mk (Str.ofString "cmp_to_key") (Str.ofString "cmp_to_key") (defArgs (topStmt 1)) (FuncBody.stmts (bodyOf 1)) (defScope (topStmt 1)) 3 [] Value.none Value.none Value.none (Value.str (Str.ofString "cpy313.functools") 187) (Option.none) (Value.ref 20) Value.none 0)) (List.toArray []))
noncomputable def zo22 (_ : Params) : Obj := (Obj.mk (Value.type SZ.s2742458400755230247x6) (Option.none) Data.plain (List.toArray []))
noncomputable def zo23 (_ : Params) : Obj := (Obj.mk (Value.type SZ.s2766695959194262286x5) (Option.none) (Data.seq (List.toArray [(Value.ref 22)]) 0) (List.toArray []))
noncomputable def zo29 (_ : Params) : Obj := (Obj.mk (Value.type SZ.s5856160107412720595x4) (Option.none) (Data.fields (List.toArray [(Value.str (Str.ofString "reduce") 199), (Value.str (Str.ofString "reduce") 200), (Value.str (Str.ofString "/claim/cut.py") 201), (Value.int 28 0), (Value.int 3 0), (Value.int 0 0), (Value.int 0 0), (Value.int 3 0), (Value.ref 24), (Value.bool Bool.true), (Value.int 181 0), (Value.ref 25), Value.none, (Value.ref 26), (Value.ref 27), (Value.ref 28), (Value.int 208 0), (Value.int 28 0), (Value.str (Str.ofString "/claim/cut.py") 209)])) (List.toArray []))
noncomputable def zo30 (_ : Params) : Obj := (Obj.mk (Value.type SZ.s7174869446012820540x8) (Option.none) (Data.func (FuncData.mk (Str.ofString "reduce") (Str.ofString "reduce") (defArgs (topStmt 3)) (FuncBody.stmts (bodyOf 3)) (defScope (topStmt 3)) 3 [] (Value.ref 23) Value.none Value.none (Value.str (Str.ofString "cpy313.functools") 187) (Option.none) (Value.ref 29) Value.none 0)) (List.toArray []))
noncomputable def zo36 (_ : Params) : Obj := (Obj.mk (Value.type SZ.s5856160107412720595x4) (Option.none) (Data.fields (List.toArray [(Value.str (Str.ofString "search_reverse") 213), (Value.str (Str.ofString "search_reverse") 214), (Value.str (Str.ofString "/claim/cut.py") 215), (Value.int 41 0), (Value.int 3 0), (Value.int 0 0), (Value.int 0 0), (Value.int 3 0), (Value.ref 31), (Value.bool Bool.true), (Value.int 181 0), (Value.ref 32), Value.none, (Value.ref 33), (Value.ref 34), (Value.ref 35), (Value.int 223 0), (Value.int 41 0), (Value.str (Str.ofString "/claim/cut.py") 224)])) (List.toArray []))
noncomputable def zo37 (_ : Params) : Obj := (Obj.mk (Value.type SZ.s7174869446012820540x8) (Option.none) (Data.func (FuncData.mk (Str.ofString "search_reverse") (Str.ofString "search_reverse") (defArgs (topStmt 5)) (FuncBody.stmts (bodyOf 5)) (defScope (topStmt 5)) 3 [] Value.none Value.none Value.none (Value.str (Str.ofString "cpy313.idlelib.searchengine") 211) (Option.none) (Value.ref 36) Value.none 0)) (List.toArray []))
noncomputable def zo39 (_ : Params) : Obj := (Obj.mk Value.none (Option.none) (Data.fields (List.toArray [])) (List.toArray []))
noncomputable def zo43 (_ : Params) : Obj := (Obj.mk (Value.type SZ.s5856160107412720595x4) (Option.none) (Data.fields (List.toArray [(Value.str (Str.ofString "_law_visit") 228), (Value.str (Str.ofString "_law_visit") 229), (Value.str (Str.ofString "/claim/cut.py") 230), (Value.int 57 0), (Value.int 3 0), (Value.int 0 0), (Value.int 0 0), (Value.int 3 0), (Value.ref 38), (Value.bool Bool.true), (Value.int 181 0), (Value.ref 39), Value.none, (Value.ref 40), (Value.ref 41), (Value.ref 42), (Value.int 237 0), (Value.int 57 0), (Value.str (Str.ofString "/claim/cut.py") 238)])) (List.toArray []))
noncomputable def zo44 (_ : Params) : Obj := (Obj.mk (Value.type SZ.s7174869446012820540x8) (Option.none) (Data.func (FuncData.mk (Str.ofString "_law_visit") (Str.ofString "_law_visit") (defArgs (topStmt 7)) (FuncBody.stmts (bodyOf 7)) (defScope (topStmt 7)) 3 [] Value.none Value.none Value.none (Value.str (Str.ofString "law_ij0010_01") 226) (Option.none) (Value.ref 43) Value.none 0)) (List.toArray []))
noncomputable def zo50 (_ : Params) : Obj := (Obj.mk (Value.type SZ.s5856160107412720595x4) (Option.none) (Data.fields (List.toArray [(Value.str (Str.ofString "_law_visits") 240), (Value.str (Str.ofString "_law_visits") 241), (Value.str (Str.ofString "/claim/cut.py") 242), (Value.int 64 0), (Value.int 1 0), (Value.int 0 0), (Value.int 0 0), (Value.int 3 0), (Value.ref 45), (Value.bool Bool.true), (Value.int 181 0), (Value.ref 46), Value.none, (Value.ref 47), (Value.ref 48), (Value.ref 49), (Value.int 249 0), (Value.int 64 0), (Value.str (Str.ofString "/claim/cut.py") 250)])) (List.toArray []))
noncomputable def zo51 (_ : Params) : Obj := (Obj.mk (Value.type SZ.s7174869446012820540x8) (Option.none) (Data.func (FuncData.mk (Str.ofString "_law_visits") (Str.ofString "_law_visits") (defArgs (topStmt 8)) (FuncBody.stmts (bodyOf 8)) (defScope (topStmt 8)) 3 [] Value.none Value.none Value.none (Value.str (Str.ofString "law_ij0010_01") 226) (Option.none) (Value.ref 50) Value.none 0)) (List.toArray []))
noncomputable def zo57 (_ : Params) : Obj := (Obj.mk (Value.type SZ.s5856160107412720595x4) (Option.none) (Data.fields (List.toArray [(Value.str (Str.ofString "_law_hours") 252), (Value.str (Str.ofString "_law_hours") 253), (Value.str (Str.ofString "/claim/cut.py") 254), (Value.int 73 0), (Value.int 1 0), (Value.int 0 0), (Value.int 0 0), (Value.int 3 0), (Value.ref 52), (Value.bool Bool.true), (Value.int 181 0), (Value.ref 53), Value.none, (Value.ref 54), (Value.ref 55), (Value.ref 56), (Value.int 259 0), (Value.int 73 0), (Value.str (Str.ofString "/claim/cut.py") 260)])) (List.toArray []))
noncomputable def zo58 (_ : Params) : Obj := (Obj.mk (Value.type SZ.s7174869446012820540x8) (Option.none) (Data.func (FuncData.mk (Str.ofString "_law_hours") (Str.ofString "_law_hours") (defArgs (topStmt 9)) (FuncBody.stmts (bodyOf 9)) (defScope (topStmt 9)) 3 [] Value.none Value.none Value.none (Value.str (Str.ofString "law_ij0010_01") 226) (Option.none) (Value.ref 57) Value.none 0)) (List.toArray []))
noncomputable def zo60 (_ : Params) : Obj := (Obj.mk Value.none (Option.none) (Data.fields (List.toArray [])) (List.toArray []))
noncomputable def zo64 (_ : Params) : Obj := (Obj.mk (Value.type SZ.s5856160107412720595x4) (Option.none) (Data.fields (List.toArray [(Value.str (Str.ofString "_law_program") 262), (Value.str (Str.ofString "_law_program") 263), (Value.str (Str.ofString "/claim/cut.py") 264), (Value.int 80 0), (Value.int 2 0), (Value.int 0 0), (Value.int 0 0), (Value.int 3 0), (Value.ref 59), (Value.bool Bool.true), (Value.int 181 0), (Value.ref 60), Value.none, (Value.ref 61), (Value.ref 62), (Value.ref 63), (Value.int 271 0), (Value.int 80 0), (Value.str (Str.ofString "/claim/cut.py") 272)])) (List.toArray []))
noncomputable def zo65 (_ : Params) : Obj := (Obj.mk (Value.type SZ.s7174869446012820540x8) (Option.none) (Data.func (FuncData.mk (Str.ofString "_law_program") (Str.ofString "_law_program") (defArgs (topStmt 10)) (FuncBody.stmts (bodyOf 10)) (defScope (topStmt 10)) 3 [] Value.none Value.none Value.none (Value.str (Str.ofString "law_ij0010_01") 226) (Option.none) (Value.ref 64) Value.none 0)) (List.toArray []))
noncomputable def zo67 (_ : Params) : Obj := (Obj.mk Value.none (Option.none) (Data.fields (List.toArray [])) (List.toArray []))
noncomputable def zo71 (_ : Params) : Obj := (Obj.mk (Value.type SZ.s5856160107412720595x4) (Option.none) (Data.fields (List.toArray [(Value.str (Str.ofString "_law_lately") 274), (Value.str (Str.ofString "_law_lately") 275), (Value.str (Str.ofString "/claim/cut.py") 276), (Value.int 92 0), (Value.int 2 0), (Value.int 0 0), (Value.int 0 0), (Value.int 3 0), (Value.ref 66), (Value.bool Bool.true), (Value.int 181 0), (Value.ref 67), Value.none, (Value.ref 68), (Value.ref 69), (Value.ref 70), (Value.int 282 0), (Value.int 92 0), (Value.str (Str.ofString "/claim/cut.py") 283)])) (List.toArray []))
noncomputable def zo72 (_ : Params) : Obj := (Obj.mk (Value.type SZ.s7174869446012820540x8) (Option.none) (Data.func (FuncData.mk (Str.ofString "_law_lately") (Str.ofString "_law_lately") (defArgs (topStmt 11)) (FuncBody.stmts (bodyOf 11)) (defScope (topStmt 11)) 3 [] Value.none Value.none Value.none (Value.str (Str.ofString "law_ij0010_01") 226) (Option.none) (Value.ref 71) Value.none 0)) (List.toArray []))
noncomputable def zo76 (_ : Params) : Obj := (Obj.mk (Value.type SZ.s5856160107412720595x4) (Option.none) (Data.fields (List.toArray [(Value.str (Str.ofString "_law_to_front") 285), (Value.str (Str.ofString "_law_to_front") 286), (Value.str (Str.ofString "/claim/cut.py") 287), (Value.int 102 0), (Value.int 2 0), (Value.int 0 0), (Value.int 0 0), (Value.int 3 0), (Value.ref 73), (Value.bool Bool.true), (Value.int 181 0), (Value.ref 74), Value.none, Value.none, Value.none, (Value.ref 75), (Value.int 288 0), (Value.int 102 0), (Value.str (Str.ofString "/claim/cut.py") 289)])) (List.toArray []))
noncomputable def zo77 (_ : Params) : Obj := (Obj.mk (Value.type SZ.s7174869446012820540x8) (Option.none) (Data.func (FuncData.mk (Str.ofString "_law_to_front") (Str.ofString "_law_to_front") (defArgs (topStmt 12)) (FuncBody.stmts (bodyOf 12)) (defScope (topStmt 12)) 3 [] Value.none Value.none Value.none (Value.str (Str.ofString "law_ij0010_01") 226) (Option.none) (Value.ref 76) Value.none 0)) (List.toArray []))
noncomputable def zo83 (_ : Params) : Obj := (Obj.mk (Value.type SZ.s5856160107412720595x4) (Option.none) (Data.fields (List.toArray [(Value.str (Str.ofString "_law_five") 291), (Value.str (Str.ofString "_law_five") 292), (Value.str (Str.ofString "/claim/cut.py") 293), (Value.int 104 0), (Value.int 2 0), (Value.int 0 0), (Value.int 0 0), (Value.int 3 0), (Value.ref 78), (Value.bool Bool.true), (Value.int 181 0), (Value.ref 79), Value.none, (Value.ref 80), (Value.ref 81), (Value.ref 82), (Value.int 296 0), (Value.int 104 0), (Value.str (Str.ofString "/claim/cut.py") 297)])) (List.toArray []))
noncomputable def zo84 (_ : Params) : Obj := (Obj.mk (Value.type SZ.s7174869446012820540x8) (Option.none) (Data.func (FuncData.mk (Str.ofString "_law_five") (Str.ofString "_law_five") (defArgs (topStmt 13)) (FuncBody.stmts (bodyOf 13)) (defScope (topStmt 13)) 3 [] Value.none Value.none Value.none (Value.str (Str.ofString "law_ij0010_01") 226) (Option.none) (Value.ref 83) Value.none 0)) (List.toArray []))
noncomputable def zo90 (_ : Params) : Obj := (Obj.mk (Value.type SZ.s5856160107412720595x4) (Option.none) (Data.fields (List.toArray [(Value.str (Str.ofString "_law_fives") 299), (Value.str (Str.ofString "_law_fives") 300), (Value.str (Str.ofString "/claim/cut.py") 301), (Value.int 106 0), (Value.int 1 0), (Value.int 0 0), (Value.int 0 0), (Value.int 3 0), (Value.ref 85), (Value.bool Bool.true), (Value.int 181 0), (Value.ref 86), Value.none, (Value.ref 87), (Value.ref 88), (Value.ref 89), (Value.int 307 0), (Value.int 106 0), (Value.str (Str.ofString "/claim/cut.py") 308)])) (List.toArray []))
noncomputable def zo91 (_ : Params) : Obj := (Obj.mk (Value.type SZ.s7174869446012820540x8) (Option.none) (Data.func (FuncData.mk (Str.ofString "_law_fives") (Str.ofString "_law_fives") (defArgs (topStmt 14)) (FuncBody.stmts (bodyOf 14)) (defScope (topStmt 14)) 3 [] Value.none Value.none Value.none (Value.str (Str.ofString "law_ij0010_01") 226) (Option.none) (Value.ref 90) Value.none 0)) (List.toArray []))
noncomputable def zo95 (_ : Params) : Obj := (Obj.mk (Value.type SZ.s5856160107412720595x4) (Option.none) (Data.fields (List.toArray [(Value.str (Str.ofString "law") 310), (Value.str (Str.ofString "law") 311), (Value.str (Str.ofString "/claim/cut.py") 312), (Value.int 112 0), (Value.int 1 0), (Value.int 0 0), (Value.int 0 0), (Value.int 3 0), (Value.ref 92), (Value.bool Bool.true), (Value.int 181 0), (Value.ref 93), Value.none, Value.none, Value.none, (Value.ref 94), (Value.int 313 0), (Value.int 112 0), (Value.str (Str.ofString "/claim/cut.py") 314)])) (List.toArray []))
noncomputable def zo96 (_ : Params) : Obj := (Obj.mk (Value.type SZ.s7174869446012820540x8) (Option.none) (Data.func (FuncData.mk (Str.ofString "law") (Str.ofString "law") (defArgs (topStmt 15)) (FuncBody.stmts (bodyOf 15)) (defScope (topStmt 15)) 3 [] Value.none Value.none Value.none (Value.str (Str.ofString "law_ij0010_01") 226) (Option.none) (Value.ref 95) Value.none 0)) (List.toArray []))
noncomputable def hp (P : Params) : Frag := [(0, zo0 P), (2, zo2 P), (3, zo3 P), (4, zo4 P), (16, zo16 P), (20, zo20 P), (21, zo21 P), (22, zo22 P), (23, zo23 P), (29, zo29 P), (30, zo30 P), (36, zo36 P), (37, zo37 P), (39, zo39 P), (43, zo43 P), (44, zo44 P), (50, zo50 P), (51, zo51 P), (57, zo57 P), (58, zo58 P), (60, zo60 P), (64, zo64 P), (65, zo65 P), (67, zo67 P), (71, zo71 P), (72, zo72 P), (76, zo76 P), (77, zo77 P), (83, zo83 P), (84, zo84 P), (90, zo90 P), (91, zo91 P), (95, zo95 P), (96, zo96 P)]
def hpAs : List Nat := [0, 2, 3, 4, 16, 20, 21, 22, 23, 29, 30, 36, 37, 39, 43, 44, 50, 51, 57, 58, 60, 64, 65, 67, 71, 72, 76, 77, 83, 84, 90, 91, 95, 96]
noncomputable def view : Program := { Pr with main := { Pr.main with body := [topStmt 1, topStmt 2, topStmt 5, topStmt 7, topStmt 8, topStmt 9, topStmt 10, topStmt 11, topStmt 12, topStmt 13, topStmt 14, topStmt 15] } }
abbrev Tb : List Addr := [16, 39, 60, 67]
/-- what of the start heap may change: the tables, and that of cmp_to_key -/
abbrev KTb : List Addr := Tb
theorem ktb {a : Addr} (t : a ∉ KTb) : a ∉ Tb := t
/-- the start heap, but for the code tables that grow -/
def KIn (P : Params) (h : Heap) : Prop := ∀ a o, (hp P).lookup a = some o → a ∉ KTb → h.get? a = some o
theorem KIn.keeps {P : Params} {h h' : Heap} (K : KIn P h) (k : ∀ b o, h.get? b = some o → b ∉ Tb → h'.get? b = some o) : KIn P h' :=
  fun a o e t => k a o (K a o e t) (ktb t)
theorem KIn.at {P : Params} {h : Heap} {a : Addr} {o : Obj} (K : KIn P h) (e : (hp P).lookup a = some o) (t : a ∉ KTb) : h.get? a = some o := K a o e t

end
/-! the heap as a frame knows it, whatever the law: plain facts -/
def At (h : Heap) (a : Addr) (d : Obj → Prop) : Prop := ∃ o, h.get? a = some o ∧ d o
abbrev Led := List (Addr × (Obj → Prop))
def dNs (m : Str → Option Value) (o : Obj) : Prop := ∃ es ep, o.data = .dict es ep ∧ StrKeys es ∧ ∀ n, nsFind es n = m n
def dCell (v : Option Value) (o : Obj) : Prop := o.data = .cell v
def dList (xs : List Value) (o : Obj) : Prop := ∃ n, o = { cls := .type "list", dict := none, data := .seq xs.toArray n, slots := #[] }
def dTup (xs : List Value) (o : Obj) : Prop := ∃ n, o = { cls := .type "tuple", dict := none, data := .seq xs.toArray n, slots := #[] }
def dLIt (l : Addr) (i : Nat) (o : Obj) : Prop := o.cls = .type "list_iterator" ∧ o.data = .fields #[.ref l, .int i 0]
def dObj (x : Obj) (o : Obj) : Prop := o = x
def dFields (c : String) (vs : List Value) (o : Obj) : Prop := o = { cls := .type c, dict := none, data := .fields vs.toArray, slots := #[] }
theorem At.ns {h : Heap} {a : Addr} {m : Str → Option Value} (x : At h a (dNs m)) : h.Ns a m := let ⟨o, e, es, ep, r⟩ := x; ⟨o, es, ep, e, r⟩
theorem At.of_ns {h : Heap} {a : Addr} {m : Str → Option Value} (x : h.Ns a m) : At h a (dNs m) := let ⟨o, es, ep, e, r⟩ := x; ⟨o, e, es, ep, r⟩
theorem At.cell {h : Heap} {a : Addr} {v : Option Value} (x : At h a (dCell v)) : h.IsCell a v := x
theorem At.list {h : Heap} {a : Addr} {xs : List Value} (x : At h a (dList xs)) : h.IsList a xs.toArray := let ⟨o, e, n, q⟩ := x; ⟨o, e, by rw [q], n, by rw [q]⟩
theorem At.tup {h : Heap} {a : Addr} {xs : List Value} (x : At h a (dTup xs)) : IsTup h a xs.toArray := let ⟨o, e, n, q⟩ := x; ⟨o, e, by rw [q], n, by rw [q]⟩
theorem At.lit {h : Heap} {a l : Addr} {i : Nat} (x : At h a (dLIt l i)) : h.IsListIter a l i := x
theorem At.lt {h : Heap} {a : Addr} {d : Obj → Prop} (x : At h a d) : a < h.objs.size := let ⟨_, e, _⟩ := x; Heap.lt_size e
theorem At.nn {h : Heap} {a : Addr} {d : Obj → Prop} (x : At h a d) : h.get? a ≠ none := let ⟨_, e, _⟩ := x; by rw [e]; exact fun q => nomatch q
/-- all of h stands in h' but what lies in T -/
def ExtT (T : List Addr) (h h' : Heap) : Prop := ∀ b o, h.get? b = some o → b ∉ T → h'.get? b = some o
theorem ExtT.refl (T : List Addr) (h : Heap) : ExtT T h h := fun _ _ e _ => e
theorem ExtT.trans {T : List Addr} {h₁ h₂ h₃ : Heap} (x : ExtT T h₁ h₂) (y : ExtT T h₂ h₃) : ExtT T h₁ h₃ := fun b o e q => y b o (x b o e q) q
theorem ExtT.all {T : List Addr} {h h' : Heap} (k : ∀ b o, h.get? b = some o → h'.get? b = some o) : ExtT T h h' := fun b o e _ => k b o e
theorem ExtT.push {T : List Addr} {h h' : Heap} (x : ExtT T h h') (o : Obj) : ExtT T h (h'.push o) := fun b o' e q => Heap.get?_push_of_some o (x b o' e q)
theorem At.ext {T : List Addr} {h h' : Heap} {a : Addr} {d : Obj → Prop} (x : At h a d) (k : ExtT T h h') (q : a ∉ T) : At h' a d := let ⟨o, e, r⟩ := x; ⟨o, k a o e q, r⟩
theorem At.keeps {h h' : Heap} {a : Addr} {d : Obj → Prop} (x : At h a d) (k : ∀ b o, h.get? b = some o → h'.get? b = some o) : At h' a d := let ⟨o, e, r⟩ := x; ⟨o, k a o e, r⟩
theorem At.same {h h' : Heap} {a b : Addr} {d : Obj → Prop} (x : At h a d) (k : Heap.SameBut b h h') (q : a ≠ b) : At h' a d := let ⟨o, e, r⟩ := x; ⟨o, (k.2 a q).trans e, r⟩
/-- a table of code objects, in whatever state: what it has for the places sp is a code of that name -/
abbrev Spec := List ((Nat × Nat) × Str)
def TabOk (T : List Addr) (h : Heap) (P : Addr) (sp : Spec) : Prop :=
  ∃ ps, h.get? P = some (tabObj ps) ∧ TriplesOk ps.toList ∧ ∀ e ∈ sp, ∀ (p : Pos) (cv : Value), p.line = e.1.1 → p.col = e.1.2 → codeAmong p ps.toList = some cv → ∃ c, cv = .ref c ∧ c ∉ T ∧ h.CodeRec cv e.2
theorem codeRec_ext {T : List Addr} {h h' : Heap} {c : Addr} {q : Str} (x : h.CodeRec (.ref c) q) (k : ExtT T h h') (hc : c ∉ T) : h'.CodeRec (.ref c) q := by
  obtain ⟨c', o, vs, t, e, g, r⟩ := x
  cases e
  exact ⟨c, o, vs, t, rfl, k _ _ g hc, r⟩
theorem TabOk.stays {T : List Addr} {h h' : Heap} {P : Addr} {sp : Spec} (x : TabOk T h P sp) (k : ExtT T h h') (e : ∀ o, h.get? P = some o → h'.get? P = some o) : TabOk T h' P sp := by
  obtain ⟨ps, a, b, c⟩ := x
  refine ⟨ps, e _ a, b, fun s hs p cv hl hc' hc => ?_⟩
  obtain ⟨c', rfl, hT, hr⟩ := c s hs p cv hl hc' hc
  exact ⟨c', rfl, hT, codeRec_ext hr k hT⟩
def TabsT (TS : List (Addr × Spec)) (T : List Addr) (h : Heap) : Prop := ∀ e ∈ TS, TabOk T h e.1 e.2
theorem TabsT.stays {TS : List (Addr × Spec)} {T : List Addr} {h h' : Heap} (hT : ∀ e ∈ TS, e.1 ∈ T) (x : TabsT TS T h) (k : ∀ b o, h.get? b = some o → b ∈ T → h'.get? b = some o) (k' : ExtT T h h') : TabsT TS T h' :=
  fun e he => (x e he).stays k' fun o ho => k _ o ho (hT e he)
inductive LMem (a : Addr) (d : Obj → Prop) : Led → Prop
  | head {r} : LMem a d ((a, d) :: r)
  | tail {p r} : LMem a d r → LMem a d (p :: r)
theorem LMem.mem {a : Addr} {d : Obj → Prop} : ∀ {l : Led}, LMem a d l → (a, d) ∈ l
  | _, .head => .head _
  | _, .tail u => .tail _ u.mem
theorem LMem.app {a : Addr} {d : Obj → Prop} {ys : Led} (h : LMem a d ys) : ∀ xs : Led, LMem a d (xs ++ ys)
  | [] => h
  | _ :: r => .tail (h.app r)
inductive LUp (a : Addr) (d d' : Obj → Prop) : Led → Led → Prop
  | head {r} : LUp a d d' ((a, d) :: r) ((a, d') :: r)
  | tail {p r r'} : LUp a d d' r r' → LUp a d d' (p :: r) (p :: r')
theorem LUp.mem {a : Addr} {d d' : Obj → Prop} : ∀ {l l' : Led}, LUp a d d' l l' → (a, d) ∈ l
  | _, _, .head => .head _
  | _, _, .tail u => .tail _ u.mem
theorem LUp.keys {a : Addr} {d d' : Obj → Prop} : ∀ {l l' : Led}, LUp a d d' l l' → l'.map (·.1) = l.map (·.1)
  | _, _, .head => rfl
  | _, _, .tail u => congrArg (_ :: ·) u.keys
theorem LUp.back {a : Addr} {d d' : Obj → Prop} : ∀ {l l' : Led}, LUp a d d' l l' → (l.map (·.1)).Nodup → ∀ p ∈ l', p = (a, d') ∨ (p ∈ l ∧ p.1 ≠ a)
  | _, _, .head (r := r), nd, p, hp => by
    rcases List.mem_cons.mp hp with rfl | hp
    · exact .inl rfl
    · refine .inr ⟨.tail _ hp, fun e => ?_⟩
      rw [List.map_cons, List.nodup_cons] at nd
      exact nd.1 (List.mem_map.mpr ⟨p, hp, e⟩)
  | _, _, .tail (p := p₀) (r := r) u, nd, p, hp => by
    rw [List.map_cons, List.nodup_cons] at nd
    rcases List.mem_cons.mp hp with rfl | hp
    · refine .inr ⟨.head _, fun e => nd.1 ?_⟩
      rw [e]
      exact List.mem_map.mpr ⟨(a, d), u.mem, rfl⟩
    · rcases u.back nd.2 p hp with h | ⟨h, q⟩
      · exact .inl h
      · exact .inr ⟨.tail _ h, q⟩
theorem LUp.app {a : Addr} {d d' : Obj → Prop} {ys ys' : Led} (h : LUp a d d' ys ys') : ∀ xs : Led, LUp a d d' (xs ++ ys) (xs ++ ys')
  | [] => h
  | _ :: r => .tail (h.app r)
/-- locals by a list -/
def lk (l : List (Str × Value)) (x : Str) : Option Value := l.lookup x
def setL (x : Str) (v : Value) : List (Str × Value) → List (Str × Value)
  | [] => [(x, v)]
  | (y, u) :: r => if x = y then (y, v) :: r else (y, u) :: setL x v r
theorem lk_setL (x : Str) (v : Value) : ∀ (l : List (Str × Value)), lk (setL x v l) = fun y => if y = x then some v else lk l y
  | [] => by
    funext y
    by_cases h : y = x
    · subst h; simp [lk, setL]
    · have : (y == x) = false := beq_eq_false_iff_ne.mpr h
      simp [lk, setL, List.lookup_cons, this, h]
  | (z, u) :: r => by
    funext y
    have ih := congrFun (lk_setL x v r) y
    by_cases hz : x = z
    · subst hz
      by_cases h : y = x
      · subst h; simp [lk, setL]
      · have : (y == x) = false := beq_eq_false_iff_ne.mpr h
        simp [lk, setL, List.lookup_cons, this, h]
    · by_cases h : y = z
      · subst h
        have hyx : ¬ y = x := fun e => hz e.symm
        simp [lk, setL, hz, hyx]
      · have : (y == z) = false := beq_eq_false_iff_ne.mpr h
        simp only [lk, setL, if_neg hz, List.lookup_cons, this] at ih ⊢
        exact ih
inductive Are {α β : Type} (R : α → β → Prop) : List α → List β → Prop
  | nil : Are R [] []
  | cons {a : α} {b : β} {l : List α} {m : List β} : R a b → Are R l m → Are R (a :: l) (b :: m)
namespace Are
variable {α β : Type} {R R' : α → β → Prop}
theorem length : ∀ {l : List α} {m : List β}, Are R l m → l.length = m.length
  | _, _, .nil => rfl
  | _, _, .cons _ r => by rw [List.length_cons, List.length_cons, r.length]
theorem get : ∀ {l : List α} {m : List β}, Are R l m → ∀ {i : Nat} {a : α}, l[i]? = some a → ∃ b, m[i]? = some b ∧ R a b
  | _, _, .cons h r, 0, a, e => by simp at e; subst e; exact ⟨_, rfl, h⟩
  | _, _, .cons h r, i + 1, a, e => by simp at e; obtain ⟨b, e', q⟩ := r.get e; exact ⟨b, by simpa using e', q⟩
theorem mono : ∀ {l : List α} {m : List β}, Are R l m → (∀ a b, R a b → R' a b) → Are R' l m
  | _, _, .nil, _ => .nil
  | _, _, .cons h r, f => .cons (f _ _ h) (r.mono f)
theorem append {l' : List α} {m' : List β} : ∀ {l : List α} {m : List β}, Are R l m → Are R l' m' → Are R (l ++ l') (m ++ m')
  | _, _, .nil, x => x
  | _, _, .cons h r, x => .cons h (r.append x)
theorem take : ∀ {l : List α} {m : List β}, Are R l m → ∀ n, Are R (l.take n) (m.take n)
  | _, _, .nil, n => by simpa using Are.nil
  | _, _, .cons h r, 0 => .nil
  | _, _, .cons h r, n + 1 => .cons h (r.take n)
theorem of_map {f : β → α} : ∀ {m : List β}, (∀ b ∈ m, R (f b) b) → Are R (m.map f) m
  | [], _ => .nil
  | b :: m, h => .cons (h b (.head _)) (of_map fun c hc => h c (.tail _ hc))
end Are
theorem among_snoc {q : Pos} {a b : Nat} {c : Value} (l : List Value) (h : TriplesOk l) {cv : Value} (e : codeAmong q (l ++ [rawInt a, rawInt b, c]) = some cv) :
    codeAmong q l = some cv ∨ (q.line = a ∧ q.col = b ∧ cv = c) := by
  fun_induction TriplesOk l with
  | case1 =>
    simp only [List.nil_append, codeAmong, rawInt] at e
    split at e
    · rename_i hc
      simp only [Bool.and_eq_true, beq_iff_eq] at hc
      exact .inr ⟨by omega, by omega, (Option.some.inj e).symm⟩
    · cases e
  | case2 a' t b' u x rest ih =>
    simp only [List.cons_append, codeAmong] at e ⊢
    split at e
    · rename_i hc; rw [if_pos hc]; exact .inl e
    · rename_i hc; rw [if_neg hc]; exact ih h e
  | case3 l h1 h2 => exact h.elim
/-- the table has one code more -/
theorem TabOk.grow {T : List Addr} {h h' : Heap} {P : Addr} {sp : Spec} {ps : Array Value} {pos : Pos} {qual : Str} {c : Addr} (x : TabOk T h P sp) (e : h.get? P = some (tabObj ps)) (k : ExtT T h h')
    (e' : h'.get? P = some (tabObj (ps ++ #[rawInt pos.line, rawInt pos.col, .ref c]))) (hc : c ∉ T) (hr : h'.CodeRec (.ref c) qual) (hu : (sp.all fun e => !(e.1.1 == pos.line && e.1.2 == pos.col) || e.2 == qual) = true) : TabOk T h' P sp := by
  obtain ⟨ps', a, b, r⟩ := x
  rw [e] at a; cases a
  refine ⟨_, e', by rw [Array.toList_append]; exact TriplesOk_snoc _ _ _ _ b, fun s hs p cv hl hcol hcv => ?_⟩
  rw [Array.toList_append] at hcv
  rcases among_snoc _ b hcv with hcv | ⟨h1, h2, rfl⟩
  · obtain ⟨c', rfl, hT, hr'⟩ := r s hs p cv hl hcol hcv
    exact ⟨c', rfl, hT, codeRec_ext hr' k hT⟩
  · have hq := List.all_eq_true.mp hu s hs
    have : (s.1.1 == pos.line && s.1.2 == pos.col) = true := by
      rw [Bool.and_eq_true, beq_iff_eq, beq_iff_eq]; omega
    rw [this] at hq
    simp at hq
    exact ⟨c, rfl, hc, by rw [hq]; exact hr⟩
theorem tabHit {T : List Addr} {h : Heap} {P : Addr} {sp : Spec} {ps : Array Value} {pos : Pos} {qual : Str} {cv : Value} (x : TabOk T h P sp) (e : h.get? P = some (tabObj ps)) (hs : sp.contains ((pos.line, pos.col), qual) = true)
    (hf : codeAmong pos ps.toList = some cv) : ∃ c, cv = .ref c ∧ c ∉ T ∧ h.CodeRec cv qual := by
  obtain ⟨ps', a, b, r⟩ := x
  rw [e] at a; cases a
  obtain ⟨c, h1, h2, h3⟩ := r ((pos.line, pos.col), qual) (by simpa using hs) pos cv rfl rfl hf
  exact ⟨c, h1, h2, h3⟩

def nestOf : Option Stmt → Arguments × List Stmt × Scope
  | some (.FunctionDef _ a b _ _ _ s _ _ _) => (a, b, s)
  | _ => default
noncomputable def clsBody : { x // x = clsB ((bodyOf 1).headD (.Pass default)) } := ⟨_, rfl⟩
noncomputable def me0 : { x // x = nestOf (clsBody.1)[2]? } := ⟨_, rfl⟩
noncomputable def me1 : { x // x = nestOf (clsBody.1)[3]? } := ⟨_, rfl⟩
noncomputable def me2 : { x // x = nestOf (clsBody.1)[4]? } := ⟨_, rfl⟩
noncomputable def me3 : { x // x = nestOf (clsBody.1)[5]? } := ⟨_, rfl⟩
noncomputable def me4 : { x // x = nestOf (clsBody.1)[6]? } := ⟨_, rfl⟩
noncomputable def me5 : { x // x = nestOf (clsBody.1)[7]? } := ⟨_, rfl⟩
/-- what a class made by cmp_to_key is made of: addresses, hashes, tokens, other values -/
structure KD where
  n : Addr
  m : Addr
  ce : Addr
  f0 : Addr
  f1 : Addr
  f2 : Addr
  f3 : Addr
  f4 : Addr
  f5 : Addr
  c0 : Addr
  c1 : Addr
  c2 : Addr
  c3 : Addr
  c4 : Addr
  c5 : Addr
  hs : Nat → Int
  ts : Nat → Tok
  us : Nat → Value
  qs : Nat → Str
  ds : Nat → Value
  ps : Nat → Value
  cts : Nat → Value
  ep : Nat
  b5 : Bool
def kCls (k : Addr) (D : KD) : Obj :=
  { cls := .type "type", data := .cls { name := Str.ofString "K", bases := [.type "object"], mro := [.ref k, .type "object"], ns := D.n, qualname := D.qs 6, hasDict := false, slotNames := [D.qs 7] },
    slots := #[some (D.us 6), none, some (.str (Str.ofString "K") (D.ts 13)), some (.str (D.qs 8) (D.ts 14)), some (.builtin "object.__new__"), some (.bool D.b5)] }
def kMem (k : Addr) (D : KD) : Obj := { cls := .type "member_descriptor", data := .fields #[.str (D.qs 9) (D.ts 15), .ref k, .builtin "proto.slot", .builtin "proto.slot#set", .int 0 0] }
def kNs (D : KD) : Obj :=
  { cls := .type "dict", data := .dict #[⟨D.hs 0, .str (Str.ofString "__module__") (D.ts 0), D.us 0⟩, ⟨D.hs 1, .str (Str.ofString "__firstlineno__") (D.ts 1), D.us 1⟩, ⟨D.hs 2, .str (Str.ofString "__slots__") (D.ts 2), D.us 2⟩, ⟨D.hs 3, .str (Str.ofString "__init__") (D.ts 3), .ref D.f0⟩, ⟨D.hs 4, .str (Str.ofString "__lt__") (D.ts 4), .ref D.f1⟩, ⟨D.hs 5, .str (Str.ofString "__gt__") (D.ts 5), .ref D.f2⟩, ⟨D.hs 6, .str (Str.ofString "__eq__") (D.ts 6), .ref D.f3⟩, ⟨D.hs 7, .str (Str.ofString "__le__") (D.ts 7), .ref D.f4⟩, ⟨D.hs 8, .str (Str.ofString "__ge__") (D.ts 8), .ref D.f5⟩, ⟨D.hs 9, .str (Str.ofString "__hash__") (D.ts 9), D.us 3⟩, ⟨D.hs 10, .str (Str.ofString "__static_attributes__") (D.ts 10), D.us 4⟩, ⟨D.hs 11, .str (Str.ofString "obj") (D.ts 11), .ref D.m⟩, ⟨D.hs 12, .str (Str.ofString "__doc__") (D.ts 12), D.us 5⟩] D.ep }
/-- all that is to be known of the class k over the comparison c -/
structure KAt (F : Addr → Prop) (h : Heap) (c k : Addr) (D : KD) : Prop where
  fk : F k
  fn : F D.n
  fm : F D.m
  fce : F D.ce
  ek : h.get? k = some (kCls k D)
  en : h.get? D.n = some (kNs D)
  em : h.get? D.m = some (kMem k D)
  ece : At h D.ce (dCell (some (.ref c)))
  ff0 : F D.f0
  fc0 : F D.c0
  ef0 : h.get? D.f0 = some { cls := .type "function", data := .func (fnX "__init__" (D.qs 0) me0.1.1 me0.1.2.1 me0.1.2.2 [] .none .none (D.ds 0) (D.ps 0) none (.ref D.c0) (D.cts 0)) }
  ec0 : h.CodeRec (.ref D.c0) (D.qs 0)
  ff1 : F D.f1
  fc1 : F D.c1
  ef1 : h.get? D.f1 = some { cls := .type "function", data := .func (fnX "__lt__" (D.qs 1) me1.1.1 me1.1.2.1 me1.1.2.2 [("mycmp", D.ce)] .none .none (D.ds 1) (D.ps 1) none (.ref D.c1) (D.cts 1)) }
  ec1 : h.CodeRec (.ref D.c1) (D.qs 1)
  ff2 : F D.f2
  fc2 : F D.c2
  ef2 : h.get? D.f2 = some { cls := .type "function", data := .func (fnX "__gt__" (D.qs 2) me2.1.1 me2.1.2.1 me2.1.2.2 [("mycmp", D.ce)] .none .none (D.ds 2) (D.ps 2) none (.ref D.c2) (D.cts 2)) }
  ec2 : h.CodeRec (.ref D.c2) (D.qs 2)
  ff3 : F D.f3
  fc3 : F D.c3
  ef3 : h.get? D.f3 = some { cls := .type "function", data := .func (fnX "__eq__" (D.qs 3) me3.1.1 me3.1.2.1 me3.1.2.2 [("mycmp", D.ce)] .none .none (D.ds 3) (D.ps 3) none (.ref D.c3) (D.cts 3)) }
  ec3 : h.CodeRec (.ref D.c3) (D.qs 3)
  ff4 : F D.f4
  fc4 : F D.c4
  ef4 : h.get? D.f4 = some { cls := .type "function", data := .func (fnX "__le__" (D.qs 4) me4.1.1 me4.1.2.1 me4.1.2.2 [("mycmp", D.ce)] .none .none (D.ds 4) (D.ps 4) none (.ref D.c4) (D.cts 4)) }
  ec4 : h.CodeRec (.ref D.c4) (D.qs 4)
  ff5 : F D.f5
  fc5 : F D.c5
  ef5 : h.get? D.f5 = some { cls := .type "function", data := .func (fnX "__ge__" (D.qs 5) me5.1.1 me5.1.2.1 me5.1.2.2 [("mycmp", D.ce)] .none .none (D.ds 5) (D.ps 5) none (.ref D.c5) (D.cts 5)) }
  ec5 : h.CodeRec (.ref D.c5) (D.qs 5)
theorem codeRec_to {h h' : Heap} {a : Addr} {q : Str} (x : h.CodeRec (.ref a) q) (g : ∀ o, h.get? a = some o → h'.get? a = some o) : h'.CodeRec (.ref a) q := by
  obtain ⟨c, o, vs, t, e, r, z⟩ := x
  cases e
  exact ⟨_, o, vs, t, rfl, g _ r, z⟩
theorem KAt.to {F F' : Addr → Prop} {h h' : Heap} {c k : Addr} {D : KD} (x : KAt F h c k D) (f : ∀ a, F a → F' a) (g : ∀ a o, F a → h.get? a = some o → h'.get? a = some o) : KAt F' h' c k D where
    fk := f _ x.fk
    fn := f _ x.fn
    fm := f _ x.fm
    fce := f _ x.fce
    ek := g _ _ x.fk x.ek
    en := g _ _ x.fn x.en
    em := g _ _ x.fm x.em
    ece := x.ece.elim fun o r => ⟨o, g _ _ x.fce r.1, r.2⟩
    ff0 := f _ x.ff0
    fc0 := f _ x.fc0
    ef0 := g _ _ x.ff0 x.ef0
    ec0 := codeRec_to x.ec0 fun o => g _ o x.fc0
    ff1 := f _ x.ff1
    fc1 := f _ x.fc1
    ef1 := g _ _ x.ff1 x.ef1
    ec1 := codeRec_to x.ec1 fun o => g _ o x.fc1
    ff2 := f _ x.ff2
    fc2 := f _ x.fc2
    ef2 := g _ _ x.ff2 x.ef2
    ec2 := codeRec_to x.ec2 fun o => g _ o x.fc2
    ff3 := f _ x.ff3
    fc3 := f _ x.fc3
    ef3 := g _ _ x.ff3 x.ef3
    ec3 := codeRec_to x.ec3 fun o => g _ o x.fc3
    ff4 := f _ x.ff4
    fc4 := f _ x.fc4
    ef4 := g _ _ x.ff4 x.ef4
    ec4 := codeRec_to x.ec4 fun o => g _ o x.fc4
    ff5 := f _ x.ff5
    fc5 := f _ x.fc5
    ef5 := g _ _ x.ff5 x.ef5
    ec5 := codeRec_to x.ec5 fun o => g _ o x.fc5
theorem code_ex {h : Heap} {a : Addr} {q : Str} (x : h.CodeRec (.ref a) q) : ∃ cc cd c0 ct cr csl, h.get? a = some ⟨cc, cd, .fields ⟨c0 :: .str q ct :: cr⟩, csl⟩ := by
  obtain ⟨c, o, vs, t, e, g, d, r⟩ := x
  cases e
  obtain ⟨cc, cd, da, csl⟩ := o
  have d : da = .fields vs := d
  subst d
  obtain ⟨l⟩ := vs
  cases l with
  | nil => simp at r
  | cons c0 l =>
    cases l with
    | nil => simp at r
    | cons c1 cr =>
      have : c1 = .str q t := by simpa using r
      subst this
      exact ⟨cc, cd, c0, t, cr, csl, g⟩

section
open PySem.W.X
def kInst (k dx : Addr) (vi : Int) (vt : Tok) : Obj := { cls := .ref k, dict := some dx, data := .plain, slots := #[some (.int vi vt)] }
def kEmp : Obj := { cls := .type "dict", data := .dict #[] 0 }
set_option hygiene false in
local macro_rules | `(tactic| wtm_at "mine g_nT") => `(tactic| (rw [hT]; exact List.not_mem_nil))
theorem slot_run {X : Cx} {A : Around} {t : Nat} {F : Addr → Prop} {c k x dx : Addr} {vi : Int} {vt : Tok} {D : KD} {Q : Value → Shared → Prop} {E : Value → Shared → Prop} (hT : X.T = []) (H : KAt F X.h₀ c k D)
   (ex1 : X.h₀.get? x = some (kInst k dx vi vt)) (q : ∀ h t c', Own3 X [] [] c' h → Q (.int vi vt) ⟨h, X.g, X.d, t, X.os⟩) :
   WO X [] [] 97 t A (getAttr (.ref x) "obj" true) Q E := by
  wtm_at "mine q_fr"
  refine f_base (by kernel_rfl) rfl ex1 (by wtm_at "mine g_nT") ?_
  refine f_base (by kernel_rfl) rfl H.ek (by wtm_at "mine g_nT") ?_
  refine f_base (by kernel_rfl) rfl H.ek (by wtm_at "mine g_nT") ?_
  refine f_base (by kernel_rfl) rfl H.en (by wtm_at "mine g_nT") ?_
  wtm_at "mine q_cc"
  refine f_base (by kernel_rfl) rfl ex1 (by wtm_at "mine g_nT") ?_
  refine f_base (by kernel_rfl) rfl H.ek (by wtm_at "mine g_nT") ?_
  refine f_base (by kernel_rfl) rfl H.ek (by wtm_at "mine g_nT") ?_
  refine f_base (by kernel_rfl) rfl H.en (by wtm_at "mine g_nT") ?_
  refine f_base (by kernel_rfl) rfl H.em (by wtm_at "mine g_nT") ?_
  refine f_base (by kernel_rfl) rfl H.em (by wtm_at "mine g_nT") ?_
  refine f_base (by kernel_rfl) rfl H.ek (by wtm_at "mine g_nT") ?_
  refine f_base (by kernel_rfl) rfl H.ek (by wtm_at "mine g_nT") ?_
  refine f_base (by kernel_rfl) rfl H.en (by wtm_at "mine g_nT") ?_
  wtm_at "mine q_cc"
  refine f_base (by kernel_rfl) rfl H.em (by wtm_at "mine g_nT") ?_
  wtm_at "mine q_ag"
  refine f_base (by kernel_rfl) rfl H.em (by wtm_at "mine g_nT") ?_
  refine f_base (by kernel_rfl) rfl H.em (by wtm_at "mine g_nT") ?_
  refine f_base (by kernel_rfl) rfl ex1 (by wtm_at "mine g_nT") ?_
  refine f_base (by kernel_rfl) rfl H.ek (by wtm_at "mine g_nT") ?_
  wtm_at "mine ck"
  refine e_bind ?_
  wtm_at "mine gw"
  refine e_brF (by (rw [Bool.not_eq_false']) <;> exact elem_self) ?_
  wtm_at "mine q_pu"
  refine f_base (by kernel_rfl) rfl H.em (by wtm_at "mine g_nT") ?_
  refine f_base (by kernel_rfl) rfl H.em (by wtm_at "mine g_nT") ?_
  wtm_at "mine q_ag"
  refine f_base (by kernel_rfl) rfl H.em (by wtm_at "mine g_nT") ?_
  refine f_base (by kernel_rfl) rfl H.em (by wtm_at "mine g_nT") ?_
  refine f_base (by kernel_rfl) rfl ex1 (by wtm_at "mine g_nT") ?_
  refine f_base (by kernel_rfl) rfl H.ek (by wtm_at "mine g_nT") ?_
  refine f_base (by kernel_rfl) rfl ex1 (by wtm_at "mine g_nT") ?_
  wtm_at "mine q_dn"
  wtm_at "mine q_dn"
  refine' f_end ?h fun h D => q h _ _ D
  exact rfl
theorem inst_run {X : Cx} {A : Around} {t : Nat} {F : Addr → Prop} {c k : Addr} {vi : Int} {vt : Tok} {D : KD} {Q : Value → Shared → Prop} {E : Value → Shared → Prop} {cc : Value} {cd : Option Addr} {c0 : Value} {ct : Tok} {cr : List Value} {csl : Array (Option Value)} (hA : AK A 400 400) (hT : X.T = []) (K : KIn X.w.params X.h₀) (H : KAt F X.h₀ c k D)
   (ec : X.h₀.get? D.c0 = some ⟨cc, cd, .fields ⟨c0 :: .str (D.qs 0) ct :: cr⟩, csl⟩)
   (q : ∀ h t own i j c', Own3 X [] own c' h → Nat.beq i j = false → fd own i = some (kInst k (ad X j) vi vt) → fd own j = some kEmp → Q (.ref (ad X i)) ⟨h, X.g, X.d, t, X.os⟩) :
   WO X [] [] 97 t A (call (.ref k) [.int vi vt] []) Q E := by
  wtm_at "mine q_cc"
  refine f_base (by kernel_rfl) rfl H.ek (by wtm_at "mine g_nT") ?_
  refine f_base (by kernel_rfl) rfl H.ek (by wtm_at "mine g_nT") ?_
  wtm_at "mine q_ag"
  refine f_base (by kernel_rfl) rfl H.ek (by wtm_at "mine g_nT") ?_
  wtm_at "mine q_ag"
  refine f_base (by kernel_rfl) rfl H.ek (by wtm_at "mine g_nT") ?_
  refine f_base (by kernel_rfl) rfl H.ek (by wtm_at "mine g_nT") ?_
  refine f_base (by kernel_rfl) rfl H.ek (by wtm_at "mine g_nT") ?_
  wtm_at "mine q_cc"
  refine f_base (by kernel_rfl) rfl H.ek (by wtm_at "mine g_nT") ?_
  refine f_base (by kernel_rfl) rfl H.ek (by wtm_at "mine g_nT") ?_
  refine f_base (by kernel_rfl) rfl H.ek (by wtm_at "mine g_nT") ?_
  refine f_base (by kernel_rfl) rfl H.ek (by wtm_at "mine g_nT") ?_
  refine f_base (by kernel_rfl) rfl H.ek (by wtm_at "mine g_nT") ?_
  refine f_base (by kernel_rfl) rfl H.ek (by wtm_at "mine g_nT") ?_
  refine f_base (by kernel_rfl) rfl H.ek (by wtm_at "mine g_nT") ?_
  wtm_at "mine q_ag"
  refine f_base (by kernel_rfl) rfl H.ek (by wtm_at "mine g_nT") ?_
  refine f_base (by kernel_rfl) rfl H.ek (by wtm_at "mine g_nT") ?_
  refine f_base (by kernel_rfl) rfl H.ek (by wtm_at "mine g_nT") ?_
  refine f_base (by kernel_rfl) rfl H.ek (by wtm_at "mine g_nT") ?_
  refine f_base (by kernel_rfl) rfl H.ek (by wtm_at "mine g_nT") ?_
  refine f_base (by kernel_rfl) rfl H.ek (by wtm_at "mine g_nT") ?_
  refine f_base (by kernel_rfl) rfl H.ek (by wtm_at "mine g_nT") ?_
  refine f_base (by kernel_rfl) rfl H.ek (by wtm_at "mine g_nT") ?_
  refine f_base (by kernel_rfl) rfl H.ek (by wtm_at "mine g_nT") ?_
  refine f_base (by kernel_rfl) rfl H.ek (by wtm_at "mine g_nT") ?_
  refine f_base (by kernel_rfl) rfl H.en (by wtm_at "mine g_nT") ?_
  refine f_base (by kernel_rfl) rfl H.ek (by wtm_at "mine g_nT") ?_
  wtm_at "mine q_al"
  wtm_at "mine q_al"
  refine f_base (by kernel_rfl) rfl H.ek (by wtm_at "mine g_nT") ?_
  wtm_at "mine q_dn"
  refine f_own 98 (by kernel_rfl) rfl ?_
  refine f_base (by kernel_rfl) rfl H.ek (by wtm_at "mine g_nT") ?_
  wtm_at "mine gw"
  refine e_brF (by (rw [Bool.not_eq_false']) <;> exact elem_self) ?_
  refine f_own 98 (by kernel_rfl) rfl ?_
  refine f_base (by kernel_rfl) rfl H.ek (by wtm_at "mine g_nT") ?_
  refine f_base (by kernel_rfl) rfl H.ek (by wtm_at "mine g_nT") ?_
  refine f_base (by kernel_rfl) rfl H.en (by wtm_at "mine g_nT") ?_
  refine f_base (by kernel_rfl) rfl H.ef0 (by wtm_at "mine g_nT") ?_
  wtm_at "mine q_cc"
  refine f_base (by kernel_rfl) rfl H.ef0 (by wtm_at "mine g_nT") ?_
  refine f_base (by kernel_rfl) rfl ec (by wtm_at "mine g_nT") ?_
  wtm_at "mine q_al"
  wtm_at "mine q_fr"
  refine f_own 99 (by kernel_rfl) rfl ?_
  refine' f_upd 99 ?h ?ho ?hf ?hn ?hr ?_
  wtm_at "mine q_upr"
  wtm_at "mine q_fr"
  refine f_own 99 (by kernel_rfl) rfl ?_
  refine' f_upd 99 ?h ?ho ?hf ?hn ?hr ?_
  wtm_at "mine q_upr"
  wtm_at "mine q_st"
  refine f_base (by kernel_rfl) rfl (KIn.at (a := 2) K rfl (by decide)) (by wtm_at "mine g_nT") ?_
  wtm_at "mine ck"
  refine e_bind ?_
  wtm_at "mine gw"
  rw [L1]
  rw [L2]
  rw [L3]
  wtm_at "mine q_pu"
  wtm_at "mine q_ag"
  refine f_own 99 (by kernel_rfl) rfl ?_
  refine f_own 99 (by kernel_rfl) rfl ?_
  wtm_at "mine q_fr"
  refine f_own 98 (by kernel_rfl) rfl ?_
  refine f_base (by kernel_rfl) rfl H.ek (by wtm_at "mine g_nT") ?_
  refine f_base (by kernel_rfl) rfl H.ek (by wtm_at "mine g_nT") ?_
  refine f_base (by kernel_rfl) rfl H.en (by wtm_at "mine g_nT") ?_
  wtm_at "mine q_cc"
  refine f_own 98 (by kernel_rfl) rfl ?_
  refine f_base (by kernel_rfl) rfl H.ek (by wtm_at "mine g_nT") ?_
  wtm_at "mine q_ag"
  refine f_own 98 (by kernel_rfl) rfl ?_
  refine f_base (by kernel_rfl) rfl H.ek (by wtm_at "mine g_nT") ?_
  refine f_own 98 (by kernel_rfl) rfl ?_
  refine f_base (by kernel_rfl) rfl H.ek (by wtm_at "mine g_nT") ?_
  refine f_base (by kernel_rfl) rfl H.ek (by wtm_at "mine g_nT") ?_
  refine f_base (by kernel_rfl) rfl H.en (by wtm_at "mine g_nT") ?_
  refine f_base (by kernel_rfl) rfl H.em (by wtm_at "mine g_nT") ?_
  refine f_base (by kernel_rfl) rfl H.em (by wtm_at "mine g_nT") ?_
  wtm_at "mine q_cc"
  refine f_base (by kernel_rfl) rfl H.em (by wtm_at "mine g_nT") ?_
  wtm_at "mine q_ag"
  refine f_base (by kernel_rfl) rfl H.em (by wtm_at "mine g_nT") ?_
  refine f_base (by kernel_rfl) rfl H.em (by wtm_at "mine g_nT") ?_
  refine f_own 98 (by kernel_rfl) rfl ?_
  refine f_base (by kernel_rfl) rfl H.ek (by wtm_at "mine g_nT") ?_
  wtm_at "mine ck"
  refine e_bind ?_
  wtm_at "mine gw"
  refine e_brF (by (rw [Bool.not_eq_false']) <;> exact elem_self) ?_
  wtm_at "mine q_pu"
  refine f_base (by kernel_rfl) rfl H.em (by wtm_at "mine g_nT") ?_
  refine f_base (by kernel_rfl) rfl H.em (by wtm_at "mine g_nT") ?_
  wtm_at "mine q_ag"
  refine f_base (by kernel_rfl) rfl H.em (by wtm_at "mine g_nT") ?_
  refine f_base (by kernel_rfl) rfl H.em (by wtm_at "mine g_nT") ?_
  refine f_own 98 (by kernel_rfl) rfl ?_
  refine f_base (by kernel_rfl) rfl H.ek (by wtm_at "mine g_nT") ?_
  refine' f_upd 98 ?h ?ho ?hf ?hn ?hr ?_
  wtm_at "mine q_upr"
  wtm_at "mine q_dn"
  wtm_at "mine q_dn"
  wtm_at "mine q_dn"
  wtm_at "mine q_dn"
  refine' f_end (a := .ref (ad X 98)) ?z fun h D => ?_
  case z => kernel_rfl
  refine' q h _ _ _ _ _ D ?a ?b ?c
  case b => exact rfl
  case c => exact rfl
  case a => exact rfl

end
/-- the code objects of a class that cmp_to_key has made: that of the class c, its table P, those of the methods -/
structure KC where
  c : Addr
  P : Addr
  k0 : Addr
  k1 : Addr
  k2 : Addr
  k3 : Addr
  k4 : Addr
  k5 : Addr
  vs : Nat → Value
  sl : Array (Option Value)
  cl : Value
  dd : Option Addr
def kCode (D : KC) : Obj := ⟨D.cl, D.dd, .fields ⟨[D.vs 0, D.vs 1, D.vs 2, D.vs 3, D.vs 4, D.vs 5, D.vs 6, D.vs 7, D.vs 8, D.vs 9, D.vs 10, .ref D.P, D.vs 12, D.vs 13, D.vs 14, D.vs 15, D.vs 16, D.vs 17, D.vs 18]⟩, D.sl⟩
def kTab (D : KC) : Obj := { cls := .none, data := .fields ⟨[.int 8 0, .int 8 0, .ref D.k0, .int 11 0, .int 8 0, .ref D.k1, .int 14 0, .int 8 0, .ref D.k2, .int 17 0, .int 8 0, .ref D.k3, .int 20 0, .int 8 0, .ref D.k4, .int 23 0, .int 8 0, .ref D.k5]⟩ }
def kTab16 (c : Addr) : Obj := { cls := .none, data := .fields ⟨[.int 4 0, .int 4 0, .ref c]⟩ }
abbrev emptyTab : Obj := { cls := .none, data := .fields #[] }
abbrev kq0 : Str := "cmp_to_key.<locals>.K.__init__"
abbrev kq1 : Str := "cmp_to_key.<locals>.K.__lt__"
abbrev kq2 : Str := "cmp_to_key.<locals>.K.__gt__"
abbrev kq3 : Str := "cmp_to_key.<locals>.K.__eq__"
abbrev kq4 : Str := "cmp_to_key.<locals>.K.__le__"
abbrev kq5 : Str := "cmp_to_key.<locals>.K.__ge__"
def isStrV : Value → Bool
  | .str .. => true
  | _ => false
/-- they stand -/
structure KCd (F : Addr → Prop) (h : Heap) (D : KC) : Prop where
  fc : F D.c
  fP : F D.P
  ec : h.get? D.c = some (kCode D)
  eP : h.get? D.P = some (kTab D)
  cc : isStrV (D.vs 1) = true
  f0 : F D.k0
  r0 : h.CodeRec (.ref D.k0) kq0
  f1 : F D.k1
  r1 : h.CodeRec (.ref D.k1) kq1
  f2 : F D.k2
  r2 : h.CodeRec (.ref D.k2) kq2
  f3 : F D.k3
  r3 : h.CodeRec (.ref D.k3) kq3
  f4 : F D.k4
  r4 : h.CodeRec (.ref D.k4) kq4
  f5 : F D.k5
  r5 : h.CodeRec (.ref D.k5) kq5
theorem KCd.to {F F' : Addr → Prop} {h h' : Heap} {D : KC} (x : KCd F h D) (f : ∀ a, F a → F' a) (g : ∀ a o, F a → h.get? a = some o → h'.get? a = some o) : KCd F' h' D where
  fc := f _ x.fc
  fP := f _ x.fP
  ec := g _ _ x.fc x.ec
  eP := g _ _ x.fP x.eP
  cc := x.cc
  f0 := f _ x.f0
  r0 := codeRec_to x.r0 fun o => g _ o x.f0
  f1 := f _ x.f1
  r1 := codeRec_to x.r1 fun o => g _ o x.f1
  f2 := f _ x.f2
  r2 := codeRec_to x.r2 fun o => g _ o x.f2
  f3 := f _ x.f3
  r3 := codeRec_to x.r3 fun o => g _ o x.f3
  f4 := f _ x.f4
  r4 := codeRec_to x.r4 fun o => g _ o x.f4
  f5 := f _ x.f5
  r5 := codeRec_to x.r5 fun o => g _ o x.f5
def oEnts (o : Option Obj) : List DictEntry := match o with
  | some ⟨_, _, .dict es _, _⟩ => es.toList
  | _ => []
def oEp (o : Option Obj) : Nat := match o with
  | some ⟨_, _, .dict _ n, _⟩ => n
  | _ => 0
def oFun (o : Option Obj) : FuncData := match o with
  | some ⟨_, _, .func f, _⟩ => f
  | _ => default
def oSlot (o : Option Obj) (i : Nat) : Value := match o with
  | some ⟨_, _, _, sl⟩ => (sl.toList.getD i none).getD .none
  | _ => .none
def oCls (o : Option Obj) : Str × List Str := match o with
  | some ⟨_, _, .cls c, _⟩ => (c.qualname, c.slotNames)
  | _ => (⟨#[]⟩, [])
def oFld (o : Option Obj) (i : Nat) : Value := match o with
  | some ⟨_, _, .fields vs, _⟩ => vs.toList.getD i .none
  | _ => .none
def vTok : Value → Tok
  | .str _ t => t
  | _ => 0
def vStr : Value → Str
  | .str s _ => s
  | _ => ⟨#[]⟩
def vTrue : Value → Bool
  | .bool b => b
  | _ => false
def mkE (own : Hist) (n i : Nat) : DictEntry := (oEnts (fd own n)).getD i ⟨0, .none, .none⟩
/-- what the class is made of, read off the cells: the class at k, its dictionary n, its member m, the methods from f on by d -/
def mkD (X : Cx) (own : Hist) (k n m f d : Nat) (c0 c1 c2 c3 c4 c5 : Addr) : KD where
  n := ad X n
  m := ad X m
  ce := ad X 98
  f0 := ad X (f + 0 * d)
  f1 := ad X (f + 1 * d)
  f2 := ad X (f + 2 * d)
  f3 := ad X (f + 3 * d)
  f4 := ad X (f + 4 * d)
  f5 := ad X (f + 5 * d)
  c0 := c0
  c1 := c1
  c2 := c2
  c3 := c3
  c4 := c4
  c5 := c5
  hs := fun i => (mkE own n i).hash
  ts := fun i => match i with
    | 13 => vTok (oSlot (fd own k) 2)
    | 14 => vTok (oSlot (fd own k) 3)
    | 15 => vTok (oFld (fd own m) 0)
    | i => vTok (mkE own n i).key
  us := fun i => match i with
    | 3 => (mkE own n 9).val
    | 4 => (mkE own n 10).val
    | 5 => (mkE own n 12).val
    | 6 => oSlot (fd own k) 0
    | i => (mkE own n i).val
  qs := fun i => match i with
    | 6 => (oCls (fd own k)).1
    | 7 => (oCls (fd own k)).2.headD ⟨#[]⟩
    | 8 => vStr (oSlot (fd own k) 3)
    | 9 => vStr (oFld (fd own m) 0)
    | i => (oFun (fd own (f + i * d))).qualname
  ds := fun i => (oFun (fd own (f + i * d))).doc
  ps := fun i => (oFun (fd own (f + i * d))).pyModule
  cts := fun i => (oFun (fd own (f + i * d))).closureTuple
  ep := oEp (fd own n)
  b5 := vTrue (oSlot (fd own k) 5)
def oAll (o : Option Obj) : Obj := o.getD { cls := .none, data := .plain }
/-- the codes, read off the cells -/
def mkC (X : Cx) (own : Hist) (c p : Nat) : KC where
  c := ad X c
  P := ad X p
  k0 := ad X 112
  k1 := ad X 120
  k2 := ad X 128
  k3 := ad X 136
  k4 := ad X 144
  k5 := ad X 152
  vs := fun i => oFld (fd own c) i
  sl := (oAll (fd own c)).slots
  cl := (oAll (fd own c)).cls
  dd := (oAll (fd own c)).dict
theorem Own3.new {X : Cx} {tb own : Hist} {c : Nat} {h : Heap} (D : Own3 X tb own c h) (j : Nat) (hj : Nat.ble 97 j = true) : X.h₀.get? (ad X j) = none :=
  Heap.get?_none_of_le (by rw [D.sz0]; exact Nat.add_le_add_left (Nat.le_of_ble_eq_true hj) _)
theorem code_at {h : Heap} {a : Addr} {q q' : Str} {t : Tok} {cl : Value} {dd : Option Addr} {sl : Array (Option Value)} {vs : Array Value} (e : h.get? a = some ⟨cl, dd, .fields vs, sl⟩) (hv : vs[1]? = some (.str q t)) (hq : q = q') : h.CodeRec (.ref a) q' := by
  subst hq; exact ⟨a, _, _, t, rfl, e, rfl, hv⟩
theorem cell_at {h : Heap} {a : Addr} {v : Option Value} {o : Obj} (e : h.get? a = some o) (h1 : o.data = .cell v) : At h a (dCell v) := ⟨o, e, h1⟩
theorem codeRec_eq {h : Heap} {v : Value} {q q' : Str} (x : h.CodeRec v q) (e : q = q') : h.CodeRec v q' := e ▸ x

section
open PySem.W.X
set_option hygiene false in
local macro_rules | `(tactic| wtm_at "mine g_nT") => `(tactic| (rw [hT]; decide))
theorem zid {s : Str} (h : s = Str.ofString "obj") : ZFast.zw10133417225327028743 s = some true := by subst h; kernel_rfl
theorem cmp_fin {X : Cx} {tb own : Hist} {n t : Nat} {h : Heap} {c k : Addr} {Q : Value → Shared → Prop} {D : KD} {C : KC} (_ : Own3 X tb own n h) (kp : ∀ b o, X.h₀.get? b = some o → b ∉ X.T → h.get? b = some o)
   (q : ∀ h t k D C, (∀ b o, X.h₀.get? b = some o → b ∉ X.T → h.get? b = some o) → KAt (fun a => X.h₀.get? a = none) h c k D → KCd (fun a => X.h₀.get? a = none) h C → h.get? 16 = some (kTab16 C.c) → Q (.ref k) ⟨h, X.g, X.d, t, X.os⟩)
   (_ : D = mkD X own 157 156 158 113 8 (ad X 112) (ad X 120) (ad X 128) (ad X 136) (ad X 144) (ad X 152)) (_ : C = mkC X own 104 103)
   (hk : KAt (fun a => X.h₀.get? a = none) h c k D) (hc : KCd (fun a => X.h₀.get? a = none) h C) (h16 : h.get? 16 = some (kTab16 C.c)) : Q (.ref k) ⟨h, X.g, X.d, t, X.os⟩ := q h t k _ _ kp hk hc h16
theorem cmp_run {X : Cx} {A : Around} {t : Nat} {c : Addr} {Q : Value → Shared → Prop} {E : Value → Shared → Prop} (hA : AK A 400 400) (hT : X.T = [16]) (K : KIn X.w.params X.h₀)
   (q : ∀ h t k D C, (∀ b o, X.h₀.get? b = some o → b ∉ X.T → h.get? b = some o) → KAt (fun a => X.h₀.get? a = none) h c k D → KCd (fun a => X.h₀.get? a = none) h C → h.get? 16 = some (kTab16 C.c) → Q (.ref k) ⟨h, X.g, X.d, t, X.os⟩) :
   WO X [(16, emptyTab)] [] 97 t A (call (.ref 21) [.ref c] []) Q E := by
  wtm_at "mine q_cc"
  refine f_base (by kernel_rfl) rfl (KIn.at (a := 21) K rfl (by decide)) (by wtm_at "mine g_nT") ?_
  refine f_base (by kernel_rfl) rfl (KIn.at (a := 20) K rfl (by decide)) (by wtm_at "mine g_nT") ?_
  wtm_at "mine q_al"
  wtm_at "mine q_al"
  refine f_own 98 (by kernel_rfl) rfl ?_
  refine' f_upd 98 ?h ?ho ?hf ?hn ?hr ?_
  wtm_at "mine q_upr"
  wtm_at "mine q_st"
  refine f_base (by kernel_rfl) rfl (KIn.at (a := 2) K rfl (by decide)) (by wtm_at "mine g_nT") ?_
  wtm_at "mine ck"
  refine e_bind ?_
  wtm_at "mine gw"
  rw [L1]
  rw [L2]
  rw [L3]
  wtm_at "mine q_pu"
  wtm_at "mine q_ag"
  refine f_base (by kernel_rfl) rfl (KIn.at (a := 0) K rfl (by decide)) (by wtm_at "mine g_nT") ?_
  refine f_base (by kernel_rfl) rfl (KIn.at (a := 3) K rfl (by decide)) (by wtm_at "mine g_nT") ?_
  refine f_base (by kernel_rfl) rfl (KIn.at (a := 0) K rfl (by decide)) (by wtm_at "mine g_nT") ?_
  wtm_at "mine q_al"
  wtm_at "mine q_fr"
  wtm_at "mine q_fr"
  wtm_at "mine q_cc"
  wtm_at "mine q_ag"
  wtm_at "mine q_cc"
  wtm_at "mine q_ag"
  wtm_at "mine q_al"
  wtm_at "mine q_dn"
  wtm_at "mine q_dn"
  wtm_at "mine q_cc"
  refine f_own 100 (by kernel_rfl) rfl ?_
  wtm_at "mine q_ag"
  wtm_at "mine q_al"
  wtm_at "mine q_dn"
  refine f_own 101 (by kernel_rfl) rfl ?_
  refine f_base (by kernel_rfl) rfl (KIn.at (a := 20) K rfl (by decide)) (by wtm_at "mine g_nT") ?_
  refine f_tab (a := 16) (by kernel_rfl) rfl rfl ?_
  wtm_at "mine q_fr"
  wtm_at "mine q_fr"
  wtm_at "mine q_fr"
  wtm_at "mine q_fr"
  wtm_at "mine q_al"
  wtm_at "mine q_al"
  wtm_at "mine q_fr"
  wtm_at "mine q_fr"
  wtm_at "mine q_al"
  refine f_tab (a := 16) (by kernel_rfl) rfl rfl ?_
  refine' f_updT (a := 16) ?h ?ho ?hf ?hn ?hr ?_
  wtm_at "mine q_upr"
  refine f_tab (a := 16) (by kernel_rfl) rfl rfl ?_
  refine f_base (by kernel_rfl) rfl (KIn.at (a := 3) K rfl (by decide)) (by wtm_at "mine g_nT") ?_
  refine f_base (by kernel_rfl) rfl (KIn.at (a := 4) K rfl (by decide)) (by wtm_at "mine g_nT") ?_
  refine f_base (by kernel_rfl) rfl (KIn.at (a := 3) K rfl (by decide)) (by wtm_at "mine g_nT") ?_
  wtm_at "mine q_al"
  wtm_at "mine q_st"
  refine f_base (by kernel_rfl) rfl (KIn.at (a := 2) K rfl (by decide)) (by wtm_at "mine g_nT") ?_
  wtm_at "mine ck"
  refine e_bind ?_
  wtm_at "mine ck"
  refine e_onRaise ?_
  wtm_at "mine ck"
  refine e_bind ?_
  wtm_at "mine ck"
  refine e_bind ?_
  wtm_at "mine ck"
  refine e_keep ?_
  wtm_at "mine ck"
  refine e_keep ?_
  wtm_at "mine ck"
  refine e_keep ?_
  wtm_at "mine ck"
  refine e_bind ?_
  wtm_at "mine gw"
  rw [L1]
  rw [L2]
  rw [L3]
  wtm_at "mine q_pu"
  refine f_own 101 (by kernel_rfl) rfl ?_
  refine f_own 101 (by kernel_rfl) rfl ?_
  refine f_base (by kernel_rfl) rfl (KIn.at (a := 3) K rfl (by decide)) (by wtm_at "mine g_nT") ?_
  refine f_own 101 (by kernel_rfl) rfl ?_
  wtm_at "mine q_fr"
  refine f_own 101 (by kernel_rfl) rfl ?_
  refine' f_upd 101 ?h ?ho ?hf ?hn ?hr ?_
  wtm_at "mine q_upr"
  wtm_at "mine q_fr"
  refine f_own 101 (by kernel_rfl) rfl ?_
  wtm_at "mine q_fr"
  refine f_own 101 (by kernel_rfl) rfl ?_
  refine' f_upd 101 ?h ?ho ?hf ?hn ?hr ?_
  wtm_at "mine q_upr"
  wtm_at "mine q_fr"
  refine f_own 101 (by kernel_rfl) rfl ?_
  wtm_at "mine q_fr"
  refine f_own 101 (by kernel_rfl) rfl ?_
  refine' f_upd 101 ?h ?ho ?hf ?hn ?hr ?_
  wtm_at "mine q_upr"
  wtm_at "mine q_cc"
  wtm_at "mine q_fr"
  refine f_own 101 (by kernel_rfl) rfl ?_
  wtm_at "mine q_fr"
  refine f_own 101 (by kernel_rfl) rfl ?_
  refine' f_upd 101 ?h ?ho ?hf ?hn ?hr ?_
  wtm_at "mine q_upr"
  wtm_at "mine q_fr"
  wtm_at "mine q_al"
  refine f_own 101 (by kernel_rfl) rfl ?_
  wtm_at "mine q_fr"
  refine f_own 101 (by kernel_rfl) rfl ?_
  refine' f_upd 101 ?h ?ho ?hf ?hn ?hr ?_
  wtm_at "mine q_upr"
  refine f_own 104 (by kernel_rfl) rfl ?_
  refine f_own 103 (by kernel_rfl) rfl ?_
  wtm_at "mine q_fr"
  wtm_at "mine q_fr"
  wtm_at "mine q_fr"
  wtm_at "mine q_al"
  wtm_at "mine q_al"
  wtm_at "mine q_fr"
  wtm_at "mine q_fr"
  wtm_at "mine q_al"
  wtm_at "mine q_al"
  wtm_at "mine q_al"
  wtm_at "mine q_fr"
  wtm_at "mine q_fr"
  wtm_at "mine q_al"
  refine f_own 103 (by kernel_rfl) rfl ?_
  refine' f_upd 103 ?h ?ho ?hf ?hn ?hr ?_
  wtm_at "mine q_upr"
  refine f_own 103 (by kernel_rfl) rfl ?_
  refine f_base (by kernel_rfl) rfl (KIn.at (a := 3) K rfl (by decide)) (by wtm_at "mine g_nT") ?_
  refine f_base (by kernel_rfl) rfl (KIn.at (a := 4) K rfl (by decide)) (by wtm_at "mine g_nT") ?_
  refine f_base (by kernel_rfl) rfl (KIn.at (a := 3) K rfl (by decide)) (by wtm_at "mine g_nT") ?_
  wtm_at "mine q_al"
  refine f_own 101 (by kernel_rfl) rfl ?_
  wtm_at "mine q_fr"
  refine f_own 101 (by kernel_rfl) rfl ?_
  refine' f_upd 101 ?h ?ho ?hf ?hn ?hr ?_
  wtm_at "mine q_upr"
  wtm_at "mine q_al"
  refine f_own 104 (by kernel_rfl) rfl ?_
  refine f_own 103 (by kernel_rfl) rfl ?_
  wtm_at "mine q_fr"
  wtm_at "mine q_fr"
  wtm_at "mine q_fr"
  wtm_at "mine q_fr"
  wtm_at "mine q_al"
  wtm_at "mine q_al"
  wtm_at "mine q_fr"
  wtm_at "mine q_fr"
  wtm_at "mine q_al"
  wtm_at "mine q_al"
  wtm_at "mine q_al"
  wtm_at "mine q_fr"
  wtm_at "mine q_fr"
  wtm_at "mine q_al"
  refine f_own 103 (by kernel_rfl) rfl ?_
  refine' f_upd 103 ?h ?ho ?hf ?hn ?hr ?_
  wtm_at "mine q_upr"
  refine f_own 103 (by kernel_rfl) rfl ?_
  refine f_base (by kernel_rfl) rfl (KIn.at (a := 3) K rfl (by decide)) (by wtm_at "mine g_nT") ?_
  refine f_base (by kernel_rfl) rfl (KIn.at (a := 4) K rfl (by decide)) (by wtm_at "mine g_nT") ?_
  refine f_base (by kernel_rfl) rfl (KIn.at (a := 3) K rfl (by decide)) (by wtm_at "mine g_nT") ?_
  wtm_at "mine q_al"
  refine f_own 101 (by kernel_rfl) rfl ?_
  wtm_at "mine q_fr"
  refine f_own 101 (by kernel_rfl) rfl ?_
  refine' f_upd 101 ?h ?ho ?hf ?hn ?hr ?_
  wtm_at "mine q_upr"
  wtm_at "mine q_al"
  refine f_own 104 (by kernel_rfl) rfl ?_
  refine f_own 103 (by kernel_rfl) rfl ?_
  wtm_at "mine q_fr"
  wtm_at "mine q_fr"
  wtm_at "mine q_fr"
  wtm_at "mine q_fr"
  wtm_at "mine q_al"
  wtm_at "mine q_al"
  wtm_at "mine q_fr"
  wtm_at "mine q_fr"
  wtm_at "mine q_al"
  wtm_at "mine q_al"
  wtm_at "mine q_al"
  wtm_at "mine q_fr"
  wtm_at "mine q_fr"
  wtm_at "mine q_al"
  refine f_own 103 (by kernel_rfl) rfl ?_
  refine' f_upd 103 ?h ?ho ?hf ?hn ?hr ?_
  wtm_at "mine q_upr"
  refine f_own 103 (by kernel_rfl) rfl ?_
  refine f_base (by kernel_rfl) rfl (KIn.at (a := 3) K rfl (by decide)) (by wtm_at "mine g_nT") ?_
  refine f_base (by kernel_rfl) rfl (KIn.at (a := 4) K rfl (by decide)) (by wtm_at "mine g_nT") ?_
  refine f_base (by kernel_rfl) rfl (KIn.at (a := 3) K rfl (by decide)) (by wtm_at "mine g_nT") ?_
  wtm_at "mine q_al"
  refine f_own 101 (by kernel_rfl) rfl ?_
  wtm_at "mine q_fr"
  refine f_own 101 (by kernel_rfl) rfl ?_
  refine' f_upd 101 ?h ?ho ?hf ?hn ?hr ?_
  wtm_at "mine q_upr"
  wtm_at "mine q_al"
  refine f_own 104 (by kernel_rfl) rfl ?_
  refine f_own 103 (by kernel_rfl) rfl ?_
  wtm_at "mine q_fr"
  wtm_at "mine q_fr"
  wtm_at "mine q_fr"
  wtm_at "mine q_fr"
  wtm_at "mine q_al"
  wtm_at "mine q_al"
  wtm_at "mine q_fr"
  wtm_at "mine q_fr"
  wtm_at "mine q_al"
  wtm_at "mine q_al"
  wtm_at "mine q_al"
  wtm_at "mine q_fr"
  wtm_at "mine q_fr"
  wtm_at "mine q_al"
  refine f_own 103 (by kernel_rfl) rfl ?_
  refine' f_upd 103 ?h ?ho ?hf ?hn ?hr ?_
  wtm_at "mine q_upr"
  refine f_own 103 (by kernel_rfl) rfl ?_
  refine f_base (by kernel_rfl) rfl (KIn.at (a := 3) K rfl (by decide)) (by wtm_at "mine g_nT") ?_
  refine f_base (by kernel_rfl) rfl (KIn.at (a := 4) K rfl (by decide)) (by wtm_at "mine g_nT") ?_
  refine f_base (by kernel_rfl) rfl (KIn.at (a := 3) K rfl (by decide)) (by wtm_at "mine g_nT") ?_
  wtm_at "mine q_al"
  refine f_own 101 (by kernel_rfl) rfl ?_
  wtm_at "mine q_fr"
  refine f_own 101 (by kernel_rfl) rfl ?_
  refine' f_upd 101 ?h ?ho ?hf ?hn ?hr ?_
  wtm_at "mine q_upr"
  wtm_at "mine q_al"
  refine f_own 104 (by kernel_rfl) rfl ?_
  refine f_own 103 (by kernel_rfl) rfl ?_
  wtm_at "mine q_fr"
  wtm_at "mine q_fr"
  wtm_at "mine q_fr"
  wtm_at "mine q_fr"
  wtm_at "mine q_al"
  wtm_at "mine q_al"
  wtm_at "mine q_fr"
  wtm_at "mine q_fr"
  wtm_at "mine q_al"
  wtm_at "mine q_al"
  wtm_at "mine q_al"
  wtm_at "mine q_fr"
  wtm_at "mine q_fr"
  wtm_at "mine q_al"
  refine f_own 103 (by kernel_rfl) rfl ?_
  refine' f_upd 103 ?h ?ho ?hf ?hn ?hr ?_
  wtm_at "mine q_upr"
  refine f_own 103 (by kernel_rfl) rfl ?_
  refine f_base (by kernel_rfl) rfl (KIn.at (a := 3) K rfl (by decide)) (by wtm_at "mine g_nT") ?_
  refine f_base (by kernel_rfl) rfl (KIn.at (a := 4) K rfl (by decide)) (by wtm_at "mine g_nT") ?_
  refine f_base (by kernel_rfl) rfl (KIn.at (a := 3) K rfl (by decide)) (by wtm_at "mine g_nT") ?_
  wtm_at "mine q_al"
  refine f_own 101 (by kernel_rfl) rfl ?_
  wtm_at "mine q_fr"
  refine f_own 101 (by kernel_rfl) rfl ?_
  refine' f_upd 101 ?h ?ho ?hf ?hn ?hr ?_
  wtm_at "mine q_upr"
  wtm_at "mine q_al"
  refine f_own 104 (by kernel_rfl) rfl ?_
  refine f_own 103 (by kernel_rfl) rfl ?_
  wtm_at "mine q_fr"
  wtm_at "mine q_fr"
  wtm_at "mine q_fr"
  wtm_at "mine q_fr"
  wtm_at "mine q_al"
  wtm_at "mine q_al"
  wtm_at "mine q_fr"
  wtm_at "mine q_fr"
  wtm_at "mine q_al"
  wtm_at "mine q_al"
  wtm_at "mine q_al"
  wtm_at "mine q_fr"
  wtm_at "mine q_fr"
  wtm_at "mine q_al"
  refine f_own 103 (by kernel_rfl) rfl ?_
  refine' f_upd 103 ?h ?ho ?hf ?hn ?hr ?_
  wtm_at "mine q_upr"
  refine f_own 103 (by kernel_rfl) rfl ?_
  refine f_base (by kernel_rfl) rfl (KIn.at (a := 3) K rfl (by decide)) (by wtm_at "mine g_nT") ?_
  refine f_base (by kernel_rfl) rfl (KIn.at (a := 4) K rfl (by decide)) (by wtm_at "mine g_nT") ?_
  refine f_base (by kernel_rfl) rfl (KIn.at (a := 3) K rfl (by decide)) (by wtm_at "mine g_nT") ?_
  wtm_at "mine q_al"
  refine f_own 101 (by kernel_rfl) rfl ?_
  wtm_at "mine q_fr"
  refine f_own 101 (by kernel_rfl) rfl ?_
  refine' f_upd 101 ?h ?ho ?hf ?hn ?hr ?_
  wtm_at "mine q_upr"
  refine f_own 101 (by kernel_rfl) rfl ?_
  wtm_at "mine q_fr"
  refine f_own 101 (by kernel_rfl) rfl ?_
  refine' f_upd 101 ?h ?ho ?hf ?hn ?hr ?_
  wtm_at "mine q_upr"
  wtm_at "mine q_dn"
  wtm_at "mine q_fr"
  wtm_at "mine q_al"
  refine f_own 101 (by kernel_rfl) rfl ?_
  wtm_at "mine q_fr"
  refine f_own 101 (by kernel_rfl) rfl ?_
  refine' f_upd 101 ?h ?ho ?hf ?hn ?hr ?_
  wtm_at "mine q_upr"
  wtm_at "mine q_cc"
  wtm_at "mine q_ag"
  wtm_at "mine ck"
  refine e_bind ?_
  wtm_at "mine ck"
  refine e_bind ?_
  wtm_at "mine ck"
  refine e_bind ?_
  wtm_at "mine q_bF"
  wtm_at "mine q_pu"
  wtm_at "mine q_pu"
  wtm_at "mine q_pu"
  wtm_at "mine q_cc"
  wtm_at "mine ck"
  refine e_bind ?_
  wtm_at "mine ck"
  refine e_bind ?_
  wtm_at "mine ck"
  refine e_bind ?_
  wtm_at "mine ck"
  refine e_bind ?_
  wtm_at "mine ck"
  refine e_bind ?_
  wtm_at "mine ck"
  refine e_bind ?_
  wtm_at "mine ck"
  refine e_bind ?_
  wtm_at "mine q_bF"
  wtm_at "mine q_pu"
  wtm_at "mine q_pu"
  wtm_at "mine q_pu"
  wtm_at "mine q_pu"
  wtm_at "mine q_pu"
  wtm_at "mine q_pu"
  wtm_at "mine ck"
  refine e_bind ?_
  wtm_at "mine ck"
  refine e_bind ?_
  wtm_at "mine ck"
  refine e_bind ?_
  wtm_at "mine q_bF"
  wtm_at "mine q_pu"
  wtm_at "mine q_pu"
  wtm_at "mine q_pu"
  wtm_at "mine q_pu"
  wtm_at "mine q_ag"
  refine f_own 99 (by kernel_rfl) rfl ?_
  refine f_own 101 (by kernel_rfl) rfl ?_
  refine f_own 99 (by kernel_rfl) rfl ?_
  refine f_own 101 (by kernel_rfl) rfl ?_
  refine f_own 101 (by kernel_rfl) rfl ?_
  refine f_own 106 (by kernel_rfl) rfl ?_
  wtm_at "mine q_cc"
  wtm_at "mine q_al"
  wtm_at "mine q_ag"
  refine f_own 106 (by kernel_rfl) rfl ?_
  wtm_at "mine gw"
  refine e_brT (by rw [Bool.or_eq_true, Bool.or_eq_true]; exact .inl (.inr (by kernel_rfl))) ?_
  refine f_own 106 (by kernel_rfl) rfl ?_
  refine f_own 155 (by kernel_rfl) rfl ?_
  refine f_own 155 (by kernel_rfl) rfl ?_
  refine' f_upd 155 ?h ?ho ?hf ?hn ?hr ?_
  wtm_at "mine q_upr"
  refine f_own 155 (by kernel_rfl) rfl ?_
  wtm_at "mine q_dn"
  refine f_own 155 (by kernel_rfl) rfl ?_
  wtm_at "mine ck"
  refine e_bind ?_
  wtm_at "mine ck"
  refine e_bind ?_
  wtm_at "mine ck"
  refine e_bind ?_
  wtm_at "mine ck"
  refine e_bind ?_
  wtm_at "mine q_pu"
  wtm_at "mine ck"
  refine e_bind ?_
  wtm_at "mine q_pu"
  wtm_at "mine gw"
  rw [zid ?zh]
  case zh => kernel_rfl
  wtm_at "mine q_pu"
  wtm_at "mine q_pu"
  wtm_at "mine ck"
  refine e_bind ?_
  wtm_at "mine ck"
  refine e_bind ?_
  wtm_at "mine q_bF"
  wtm_at "mine q_pu"
  wtm_at "mine q_pu"
  wtm_at "mine q_pu"
  wtm_at "mine q_al"
  wtm_at "mine q_bF"
  wtm_at "mine ck"
  refine e_bind ?_
  wtm_at "mine q_bF"
  wtm_at "mine q_pu"
  wtm_at "mine q_bF"
  refine f_own 156 (by kernel_rfl) rfl ?_
  refine f_own 156 (by kernel_rfl) rfl ?_
  refine f_own 156 (by kernel_rfl) rfl ?_
  wtm_at "mine q_al"
  refine' f_upd 157 ?h ?ho ?hf ?hn ?hr ?_
  wtm_at "mine q_upr"
  refine' f_upd 157 ?h ?ho ?hf ?hn ?hr ?_
  wtm_at "mine q_upr"
  refine' f_upd 157 ?h ?ho ?hf ?hn ?hr ?_
  wtm_at "mine q_upr"
  refine f_own 156 (by kernel_rfl) rfl ?_
  refine' f_upd 156 ?h ?ho ?hf ?hn ?hr ?_
  wtm_at "mine q_upr"
  refine f_own 156 (by kernel_rfl) rfl ?_
  refine f_own 156 (by kernel_rfl) rfl ?_
  refine f_own 156 (by kernel_rfl) rfl ?_
  refine f_own 156 (by kernel_rfl) rfl ?_
  refine f_own 156 (by kernel_rfl) rfl ?_
  wtm_at "mine ck"
  refine e_bind ?_
  wtm_at "mine q_pu"
  wtm_at "mine ck"
  refine e_bind ?_
  wtm_at "mine q_pu"
  wtm_at "mine ck"
  refine e_bind ?_
  wtm_at "mine q_pu"
  wtm_at "mine ck"
  refine e_bind ?_
  wtm_at "mine gw"
  refine e_anyM (by exact rfl) flt_self ?_
  wtm_at "mine q_pu"
  refine f_own 157 (by kernel_rfl) rfl ?_
  refine' f_upd 157 ?h ?ho ?hf ?hn ?hr ?_
  wtm_at "mine q_upr"
  refine f_own 157 (by kernel_rfl) rfl ?_
  wtm_at "mine ck"
  refine e_bind ?_
  wtm_at "mine ck"
  refine e_bind ?_
  wtm_at "mine ck"
  refine e_bind ?_
  wtm_at "mine q_bF"
  wtm_at "mine q_pu"
  wtm_at "mine q_pu"
  wtm_at "mine q_pu"
  refine' f_upd 157 ?h ?ho ?hf ?hn ?hr ?_
  wtm_at "mine q_upr"
  refine f_own 157 (by kernel_rfl) rfl ?_
  refine f_own 157 (by kernel_rfl) rfl ?_
  refine f_own 157 (by kernel_rfl) rfl ?_
  refine f_own 156 (by kernel_rfl) rfl ?_
  wtm_at "mine ck"
  refine e_bind ?_
  wtm_at "mine q_bF"
  wtm_at "mine q_pu"
  refine f_own 156 (by kernel_rfl) rfl ?_
  wtm_at "mine q_fr"
  wtm_at "mine q_al"
  refine f_own 156 (by kernel_rfl) rfl ?_
  wtm_at "mine q_fr"
  refine f_own 156 (by kernel_rfl) rfl ?_
  refine' f_upd 156 ?h ?ho ?hf ?hn ?hr ?_
  wtm_at "mine q_upr"
  refine f_own 157 (by kernel_rfl) rfl ?_
  refine' f_upd 157 ?h ?ho ?hf ?hn ?hr ?_
  wtm_at "mine q_upr"
  refine f_own 157 (by kernel_rfl) rfl ?_
  refine' f_upd 157 ?h ?ho ?hf ?hn ?hr ?_
  wtm_at "mine q_upr"
  refine f_own 156 (by kernel_rfl) rfl ?_
  wtm_at "mine q_fr"
  refine f_own 156 (by kernel_rfl) rfl ?_
  refine' f_upd 156 ?h ?ho ?hf ?hn ?hr ?_
  wtm_at "mine q_upr"
  refine f_own 156 (by kernel_rfl) rfl ?_
  refine f_own 156 (by kernel_rfl) rfl ?_
  refine f_own 156 (by kernel_rfl) rfl ?_
  refine f_own 156 (by kernel_rfl) rfl ?_
  refine f_own 106 (by kernel_rfl) rfl ?_
  refine f_own 113 (by kernel_rfl) rfl ?_
  refine f_own 121 (by kernel_rfl) rfl ?_
  refine f_own 129 (by kernel_rfl) rfl ?_
  refine f_own 137 (by kernel_rfl) rfl ?_
  refine f_own 145 (by kernel_rfl) rfl ?_
  refine f_own 153 (by kernel_rfl) rfl ?_
  refine f_own 154 (by kernel_rfl) rfl ?_
  refine f_own 158 (by kernel_rfl) rfl ?_
  wtm_at "mine q_cc"
  wtm_at "mine q_ag"
  refine f_own 157 (by kernel_rfl) rfl ?_
  wtm_at "mine ck"
  refine e_bind ?_
  wtm_at "mine q_pu"
  wtm_at "mine ck"
  refine e_bind ?_
  wtm_at "mine ck"
  refine e_bind ?_
  wtm_at "mine ck"
  refine e_bind ?_
  wtm_at "mine q_bF"
  wtm_at "mine q_pu"
  wtm_at "mine q_pu"
  wtm_at "mine q_pu"
  wtm_at "mine q_cc"
  wtm_at "mine ck"
  refine e_bind ?_
  wtm_at "mine ck"
  refine e_bind ?_
  wtm_at "mine ck"
  refine e_bind ?_
  wtm_at "mine ck"
  refine e_bind ?_
  wtm_at "mine ck"
  refine e_bind ?_
  wtm_at "mine ck"
  refine e_bind ?_
  wtm_at "mine ck"
  refine e_bind ?_
  wtm_at "mine q_bF"
  wtm_at "mine q_pu"
  wtm_at "mine q_pu"
  wtm_at "mine q_pu"
  wtm_at "mine q_pu"
  wtm_at "mine q_pu"
  wtm_at "mine q_pu"
  wtm_at "mine ck"
  refine e_bind ?_
  wtm_at "mine ck"
  refine e_bind ?_
  wtm_at "mine ck"
  refine e_bind ?_
  wtm_at "mine q_bF"
  wtm_at "mine q_pu"
  wtm_at "mine q_pu"
  wtm_at "mine q_pu"
  wtm_at "mine q_pu"
  wtm_at "mine q_ag"
  wtm_at "mine q_al"
  wtm_at "mine q_dn"
  refine f_own 159 (by kernel_rfl) rfl ?_
  refine f_own 159 (by kernel_rfl) rfl ?_
  wtm_at "mine q_cc"
  refine f_own 159 (by kernel_rfl) rfl ?_
  wtm_at "mine q_ag"
  refine f_own 157 (by kernel_rfl) rfl ?_
  refine f_own 157 (by kernel_rfl) rfl ?_
  refine f_own 157 (by kernel_rfl) rfl ?_
  wtm_at "mine ck"
  refine e_bind ?_
  wtm_at "mine q_bT"
  wtm_at "mine q_pu"
  refine f_own 159 (by kernel_rfl) rfl ?_
  refine' f_upd 159 ?h ?ho ?hf ?hn ?hr ?_
  wtm_at "mine q_upr"
  refine f_own 159 (by kernel_rfl) rfl ?_
  refine' f_upd 159 ?h ?ho ?hf ?hn ?hr ?_
  wtm_at "mine q_upr"
  refine f_own 159 (by kernel_rfl) rfl ?_
  refine' f_upd 159 ?h ?ho ?hf ?hn ?hr ?_
  wtm_at "mine q_upr"
  wtm_at "mine q_dn"
  wtm_at "mine q_dn"
  wtm_at "mine q_fr"
  refine f_own 159 (by kernel_rfl) rfl ?_
  wtm_at "mine q_cc"
  refine f_own 159 (by kernel_rfl) rfl ?_
  wtm_at "mine q_ag"
  refine f_own 159 (by kernel_rfl) rfl ?_
  refine f_own 159 (by kernel_rfl) rfl ?_
  refine f_own 159 (by kernel_rfl) rfl ?_
  refine f_base (by kernel_rfl) rfl (KIn.at (a := 2) K rfl (by decide)) (by wtm_at "mine g_nT") ?_
  refine f_own 157 (by kernel_rfl) rfl ?_
  wtm_at "mine ck"
  refine e_bind ?_
  wtm_at "mine gw"
  rw [drop_self (s := SZ.s2742458400755230247x6)]
  case ev => exact rfl
  case e => exact rfl
  wtm_at "mine q_cc"
  wtm_at "mine q_ag"
  wtm_at "mine ck"
  refine e_bind ?_
  wtm_at "mine gw"
  refine e_brF (by rw [Bool.and_eq_false_iff]; exact .inr (by kernel_rfl)) ?_
  wtm_at "mine q_pu"
  refine f_own 157 (by kernel_rfl) rfl ?_
  refine f_own 157 (by kernel_rfl) rfl ?_
  wtm_at "mine q_al"
  wtm_at "mine q_dn"
  wtm_at "mine q_pu"
  wtm_at "mine q_dn"
  wtm_at "mine q_cc"
  refine f_own 160 (by kernel_rfl) rfl ?_
  refine f_own 157 (by kernel_rfl) rfl ?_
  refine f_own 157 (by kernel_rfl) rfl ?_
  refine f_own 157 (by kernel_rfl) rfl ?_
  refine f_own 157 (by kernel_rfl) rfl ?_
  wtm_at "mine q_ag"
  wtm_at "mine q_dn"
  wtm_at "mine q_dn"
  refine f_own 157 (by kernel_rfl) rfl ?_
  refine f_own 157 (by kernel_rfl) rfl ?_
  wtm_at "mine q_cc"
  refine f_own 157 (by kernel_rfl) rfl ?_
  wtm_at "mine q_ag"
  wtm_at "mine q_dn"
  wtm_at "mine q_dn"
  wtm_at "mine q_pu"
  wtm_at "mine q_fr"
  refine f_own 97 (by kernel_rfl) rfl ?_
  refine' f_upd 97 ?h ?ho ?hf ?hn ?hr ?_
  wtm_at "mine q_upr"
  wtm_at "mine q_pu"
  refine f_own 97 (by kernel_rfl) rfl ?_
  wtm_at "mine q_pu"
  wtm_at "mine q_dn"
  refine' f_end (a := .ref (ad X 157)) ?z fun h D => ?_
  case z => kernel_rfl
  refine cmp_fin D D.keep q rfl rfl ?_ ?_ (D.tab 16 _ (by kernel_rfl))
  · exact {
    fk := D.new 157 rfl
    fn := D.new 156 rfl
    fm := D.new 158 rfl
    fce := D.new 98 rfl
    ek := D.cell 157 _ (by kernel_rfl)
    en := D.cell 156 _ (by kernel_rfl)
    em := D.cell 158 _ (by kernel_rfl)
    ece := cell_at (D.cell 98 _ rfl) (by kernel_rfl)
    ff0 := D.new 113 rfl
    ef0 := D.cell 113 _ (by kernel_rfl)
    ff1 := D.new 121 rfl
    ef1 := D.cell 121 _ (by kernel_rfl)
    ff2 := D.new 129 rfl
    ef2 := D.cell 129 _ (by kernel_rfl)
    ff3 := D.new 137 rfl
    ef3 := D.cell 137 _ (by kernel_rfl)
    ff4 := D.new 145 rfl
    ef4 := D.cell 145 _ (by kernel_rfl)
    ff5 := D.new 153 rfl
    ef5 := D.cell 153 _ (by kernel_rfl)
    fc0 := D.new 112 rfl
    ec0 := code_at (D.cell 112 _ rfl) rfl (by kernel_rfl)
    fc1 := D.new 120 rfl
    ec1 := code_at (D.cell 120 _ rfl) rfl (by kernel_rfl)
    fc2 := D.new 128 rfl
    ec2 := code_at (D.cell 128 _ rfl) rfl (by kernel_rfl)
    fc3 := D.new 136 rfl
    ec3 := code_at (D.cell 136 _ rfl) rfl (by kernel_rfl)
    fc4 := D.new 144 rfl
    ec4 := code_at (D.cell 144 _ rfl) rfl (by kernel_rfl)
    fc5 := D.new 152 rfl
    ec5 := code_at (D.cell 152 _ rfl) rfl (by kernel_rfl)
  }
  · exact {
    fc := D.new 104 rfl
    fP := D.new 103 rfl
    ec := D.cell 104 _ (by kernel_rfl)
    eP := D.cell 103 _ (by kernel_rfl)
    cc := by kernel_rfl
    f0 := D.new 112 rfl
    r0 := code_at (D.cell 112 _ rfl) rfl (by kernel_rfl)
    f1 := D.new 120 rfl
    r1 := code_at (D.cell 120 _ rfl) rfl (by kernel_rfl)
    f2 := D.new 128 rfl
    r2 := code_at (D.cell 128 _ rfl) rfl (by kernel_rfl)
    f3 := D.new 136 rfl
    r3 := code_at (D.cell 136 _ rfl) rfl (by kernel_rfl)
    f4 := D.new 144 rfl
    r4 := code_at (D.cell 144 _ rfl) rfl (by kernel_rfl)
    f5 := D.new 152 rfl
    r5 := code_at (D.cell 152 _ rfl) rfl (by kernel_rfl)
  }

end
section
open PySem.W.X
set_option hygiene false in
local macro_rules | `(tactic| wtm_at "mine g_nT") => `(tactic| (rw [hT]; exact List.not_mem_nil))
theorem cmp_fin2 {X : Cx} {tb own : Hist} {n t : Nat} {h : Heap} {c k : Addr} {Q : Value → Shared → Prop} {D : KD} {C : KC} {F : Addr → Prop} (_ : Own3 X tb own n h) (kp : ∀ b o, X.h₀.get? b = some o → h.get? b = some o)
   (q : ∀ h t k D, (∀ b o, X.h₀.get? b = some o → h.get? b = some o) → KAt (fun a => X.h₀.get? a = none ∨ F a) h c k D → Q (.ref k) ⟨h, X.g, X.d, t, X.os⟩)
   (_ : D = mkD X own 118 117 119 104 2 C.k0 C.k1 C.k2 C.k3 C.k4 C.k5)
   (hk : KAt (fun a => X.h₀.get? a = none ∨ F a) h c k D) : Q (.ref k) ⟨h, X.g, X.d, t, X.os⟩ := q h t k _ kp hk
theorem cmp_run2 {X : Cx} {A : Around} {t : Nat} {c : Addr} {C : KC} {F : Addr → Prop} {Q : Value → Shared → Prop} {E : Value → Shared → Prop} (hA : AK A 400 400) (hT : X.T = []) (K : KIn X.w.params X.h₀)
   (e16 : X.h₀.get? 16 = some (kTab16 C.c)) (H : KCd F X.h₀ C)
   (q : ∀ h t k D, (∀ b o, X.h₀.get? b = some o → h.get? b = some o) → KAt (fun a => X.h₀.get? a = none ∨ F a) h c k D → Q (.ref k) ⟨h, X.g, X.d, t, X.os⟩) :
   WO X [] [] 97 t A (call (.ref 21) [.ref c] []) Q E := by
  wtm_at "mine q_cc"
  refine f_base (by kernel_rfl) rfl (KIn.at (a := 21) K rfl (by decide)) (by wtm_at "mine g_nT") ?_
  refine f_base (by kernel_rfl) rfl (KIn.at (a := 20) K rfl (by decide)) (by wtm_at "mine g_nT") ?_
  wtm_at "mine q_al"
  wtm_at "mine q_al"
  refine f_own 98 (by kernel_rfl) rfl ?_
  refine' f_upd 98 ?h ?ho ?hf ?hn ?hr ?_
  wtm_at "mine q_upr"
  wtm_at "mine q_st"
  refine f_base (by kernel_rfl) rfl (KIn.at (a := 2) K rfl (by decide)) (by wtm_at "mine g_nT") ?_
  wtm_at "mine ck"
  refine e_bind ?_
  wtm_at "mine gw"
  rw [L1]
  rw [L2]
  rw [L3]
  wtm_at "mine q_pu"
  wtm_at "mine q_ag"
  refine f_base (by kernel_rfl) rfl (KIn.at (a := 0) K rfl (by decide)) (by wtm_at "mine g_nT") ?_
  refine f_base (by kernel_rfl) rfl (KIn.at (a := 3) K rfl (by decide)) (by wtm_at "mine g_nT") ?_
  refine f_base (by kernel_rfl) rfl (KIn.at (a := 0) K rfl (by decide)) (by wtm_at "mine g_nT") ?_
  wtm_at "mine q_al"
  wtm_at "mine q_fr"
  wtm_at "mine q_fr"
  wtm_at "mine q_cc"
  wtm_at "mine q_ag"
  wtm_at "mine q_cc"
  wtm_at "mine q_ag"
  wtm_at "mine q_al"
  wtm_at "mine q_dn"
  wtm_at "mine q_dn"
  wtm_at "mine q_cc"
  refine f_own 100 (by kernel_rfl) rfl ?_
  wtm_at "mine q_ag"
  wtm_at "mine q_al"
  wtm_at "mine q_dn"
  refine f_own 101 (by kernel_rfl) rfl ?_
  refine f_base (by kernel_rfl) rfl (KIn.at (a := 20) K rfl (by decide)) (by wtm_at "mine g_nT") ?_
  refine f_base (by kernel_rfl) rfl e16 (by wtm_at "mine g_nT") ?_
  refine f_base (by kernel_rfl) rfl (KIn.at (a := 3) K rfl (by decide)) (by wtm_at "mine g_nT") ?_
  refine f_base (by kernel_rfl) rfl (KIn.at (a := 4) K rfl (by decide)) (by wtm_at "mine g_nT") ?_
  refine f_base (by kernel_rfl) rfl (KIn.at (a := 3) K rfl (by decide)) (by wtm_at "mine g_nT") ?_
  wtm_at "mine q_al"
  wtm_at "mine q_st"
  refine f_base (by kernel_rfl) rfl (KIn.at (a := 2) K rfl (by decide)) (by wtm_at "mine g_nT") ?_
  wtm_at "mine ck"
  refine e_bind ?_
  wtm_at "mine ck"
  refine e_onRaise ?_
  wtm_at "mine ck"
  refine e_bind ?_
  wtm_at "mine ck"
  refine e_bind ?_
  wtm_at "mine ck"
  refine e_keep ?_
  wtm_at "mine ck"
  refine e_keep ?_
  wtm_at "mine ck"
  refine e_keep ?_
  wtm_at "mine ck"
  refine e_bind ?_
  wtm_at "mine gw"
  rw [L1]
  rw [L2]
  rw [L3]
  wtm_at "mine q_pu"
  refine f_own 101 (by kernel_rfl) rfl ?_
  refine f_own 101 (by kernel_rfl) rfl ?_
  refine f_base (by kernel_rfl) rfl (KIn.at (a := 3) K rfl (by decide)) (by wtm_at "mine g_nT") ?_
  refine f_own 101 (by kernel_rfl) rfl ?_
  wtm_at "mine q_fr"
  refine f_own 101 (by kernel_rfl) rfl ?_
  refine' f_upd 101 ?h ?ho ?hf ?hn ?hr ?_
  wtm_at "mine q_upr"
  wtm_at "mine q_fr"
  refine f_own 101 (by kernel_rfl) rfl ?_
  wtm_at "mine q_fr"
  refine f_own 101 (by kernel_rfl) rfl ?_
  refine' f_upd 101 ?h ?ho ?hf ?hn ?hr ?_
  wtm_at "mine q_upr"
  wtm_at "mine q_fr"
  refine f_own 101 (by kernel_rfl) rfl ?_
  wtm_at "mine q_fr"
  refine f_own 101 (by kernel_rfl) rfl ?_
  refine' f_upd 101 ?h ?ho ?hf ?hn ?hr ?_
  wtm_at "mine q_upr"
  wtm_at "mine q_cc"
  wtm_at "mine q_fr"
  refine f_own 101 (by kernel_rfl) rfl ?_
  wtm_at "mine q_fr"
  refine f_own 101 (by kernel_rfl) rfl ?_
  refine' f_upd 101 ?h ?ho ?hf ?hn ?hr ?_
  wtm_at "mine q_upr"
  wtm_at "mine q_fr"
  wtm_at "mine q_al"
  refine f_own 101 (by kernel_rfl) rfl ?_
  wtm_at "mine q_fr"
  refine f_own 101 (by kernel_rfl) rfl ?_
  refine' f_upd 101 ?h ?ho ?hf ?hn ?hr ?_
  wtm_at "mine q_upr"
  refine f_base (by kernel_rfl) rfl H.ec (by wtm_at "mine g_nT") ?_
  refine f_base (by kernel_rfl) rfl H.eP (by wtm_at "mine g_nT") ?_
  refine f_base (by kernel_rfl) rfl (KIn.at (a := 3) K rfl (by decide)) (by wtm_at "mine g_nT") ?_
  refine f_base (by kernel_rfl) rfl (KIn.at (a := 4) K rfl (by decide)) (by wtm_at "mine g_nT") ?_
  refine f_base (by kernel_rfl) rfl (KIn.at (a := 3) K rfl (by decide)) (by wtm_at "mine g_nT") ?_
  wtm_at "mine q_al"
  refine f_own 101 (by kernel_rfl) rfl ?_
  wtm_at "mine q_fr"
  refine f_own 101 (by kernel_rfl) rfl ?_
  refine' f_upd 101 ?h ?ho ?hf ?hn ?hr ?_
  wtm_at "mine q_upr"
  wtm_at "mine q_al"
  refine f_base (by kernel_rfl) rfl H.ec (by wtm_at "mine g_nT") ?_
  refine f_base (by kernel_rfl) rfl H.eP (by wtm_at "mine g_nT") ?_
  refine f_base (by kernel_rfl) rfl (KIn.at (a := 3) K rfl (by decide)) (by wtm_at "mine g_nT") ?_
  refine f_base (by kernel_rfl) rfl (KIn.at (a := 4) K rfl (by decide)) (by wtm_at "mine g_nT") ?_
  refine f_base (by kernel_rfl) rfl (KIn.at (a := 3) K rfl (by decide)) (by wtm_at "mine g_nT") ?_
  wtm_at "mine q_al"
  refine f_own 101 (by kernel_rfl) rfl ?_
  wtm_at "mine q_fr"
  refine f_own 101 (by kernel_rfl) rfl ?_
  refine' f_upd 101 ?h ?ho ?hf ?hn ?hr ?_
  wtm_at "mine q_upr"
  wtm_at "mine q_al"
  refine f_base (by kernel_rfl) rfl H.ec (by wtm_at "mine g_nT") ?_
  refine f_base (by kernel_rfl) rfl H.eP (by wtm_at "mine g_nT") ?_
  refine f_base (by kernel_rfl) rfl (KIn.at (a := 3) K rfl (by decide)) (by wtm_at "mine g_nT") ?_
  refine f_base (by kernel_rfl) rfl (KIn.at (a := 4) K rfl (by decide)) (by wtm_at "mine g_nT") ?_
  refine f_base (by kernel_rfl) rfl (KIn.at (a := 3) K rfl (by decide)) (by wtm_at "mine g_nT") ?_
  wtm_at "mine q_al"
  refine f_own 101 (by kernel_rfl) rfl ?_
  wtm_at "mine q_fr"
  refine f_own 101 (by kernel_rfl) rfl ?_
  refine' f_upd 101 ?h ?ho ?hf ?hn ?hr ?_
  wtm_at "mine q_upr"
  wtm_at "mine q_al"
  refine f_base (by kernel_rfl) rfl H.ec (by wtm_at "mine g_nT") ?_
  refine f_base (by kernel_rfl) rfl H.eP (by wtm_at "mine g_nT") ?_
  refine f_base (by kernel_rfl) rfl (KIn.at (a := 3) K rfl (by decide)) (by wtm_at "mine g_nT") ?_
  refine f_base (by kernel_rfl) rfl (KIn.at (a := 4) K rfl (by decide)) (by wtm_at "mine g_nT") ?_
  refine f_base (by kernel_rfl) rfl (KIn.at (a := 3) K rfl (by decide)) (by wtm_at "mine g_nT") ?_
  wtm_at "mine q_al"
  refine f_own 101 (by kernel_rfl) rfl ?_
  wtm_at "mine q_fr"
  refine f_own 101 (by kernel_rfl) rfl ?_
  refine' f_upd 101 ?h ?ho ?hf ?hn ?hr ?_
  wtm_at "mine q_upr"
  wtm_at "mine q_al"
  refine f_base (by kernel_rfl) rfl H.ec (by wtm_at "mine g_nT") ?_
  refine f_base (by kernel_rfl) rfl H.eP (by wtm_at "mine g_nT") ?_
  refine f_base (by kernel_rfl) rfl (KIn.at (a := 3) K rfl (by decide)) (by wtm_at "mine g_nT") ?_
  refine f_base (by kernel_rfl) rfl (KIn.at (a := 4) K rfl (by decide)) (by wtm_at "mine g_nT") ?_
  refine f_base (by kernel_rfl) rfl (KIn.at (a := 3) K rfl (by decide)) (by wtm_at "mine g_nT") ?_
  wtm_at "mine q_al"
  refine f_own 101 (by kernel_rfl) rfl ?_
  wtm_at "mine q_fr"
  refine f_own 101 (by kernel_rfl) rfl ?_
  refine' f_upd 101 ?h ?ho ?hf ?hn ?hr ?_
  wtm_at "mine q_upr"
  wtm_at "mine q_al"
  refine f_base (by kernel_rfl) rfl H.ec (by wtm_at "mine g_nT") ?_
  refine f_base (by kernel_rfl) rfl H.eP (by wtm_at "mine g_nT") ?_
  refine f_base (by kernel_rfl) rfl (KIn.at (a := 3) K rfl (by decide)) (by wtm_at "mine g_nT") ?_
  refine f_base (by kernel_rfl) rfl (KIn.at (a := 4) K rfl (by decide)) (by wtm_at "mine g_nT") ?_
  refine f_base (by kernel_rfl) rfl (KIn.at (a := 3) K rfl (by decide)) (by wtm_at "mine g_nT") ?_
  wtm_at "mine q_al"
  refine f_own 101 (by kernel_rfl) rfl ?_
  wtm_at "mine q_fr"
  refine f_own 101 (by kernel_rfl) rfl ?_
  refine' f_upd 101 ?h ?ho ?hf ?hn ?hr ?_
  wtm_at "mine q_upr"
  refine f_own 101 (by kernel_rfl) rfl ?_
  wtm_at "mine q_fr"
  refine f_own 101 (by kernel_rfl) rfl ?_
  refine' f_upd 101 ?h ?ho ?hf ?hn ?hr ?_
  wtm_at "mine q_upr"
  wtm_at "mine q_dn"
  wtm_at "mine q_fr"
  wtm_at "mine q_al"
  refine f_own 101 (by kernel_rfl) rfl ?_
  wtm_at "mine q_fr"
  refine f_own 101 (by kernel_rfl) rfl ?_
  refine' f_upd 101 ?h ?ho ?hf ?hn ?hr ?_
  wtm_at "mine q_upr"
  wtm_at "mine q_cc"
  wtm_at "mine q_ag"
  wtm_at "mine ck"
  refine e_bind ?_
  wtm_at "mine ck"
  refine e_bind ?_
  wtm_at "mine ck"
  refine e_bind ?_
  wtm_at "mine q_bF"
  wtm_at "mine q_pu"
  wtm_at "mine q_pu"
  wtm_at "mine q_pu"
  wtm_at "mine q_cc"
  wtm_at "mine ck"
  refine e_bind ?_
  wtm_at "mine ck"
  refine e_bind ?_
  wtm_at "mine ck"
  refine e_bind ?_
  wtm_at "mine ck"
  refine e_bind ?_
  wtm_at "mine ck"
  refine e_bind ?_
  wtm_at "mine ck"
  refine e_bind ?_
  wtm_at "mine ck"
  refine e_bind ?_
  wtm_at "mine q_bF"
  wtm_at "mine q_pu"
  wtm_at "mine q_pu"
  wtm_at "mine q_pu"
  wtm_at "mine q_pu"
  wtm_at "mine q_pu"
  wtm_at "mine q_pu"
  wtm_at "mine ck"
  refine e_bind ?_
  wtm_at "mine ck"
  refine e_bind ?_
  wtm_at "mine ck"
  refine e_bind ?_
  wtm_at "mine q_bF"
  wtm_at "mine q_pu"
  wtm_at "mine q_pu"
  wtm_at "mine q_pu"
  wtm_at "mine q_pu"
  wtm_at "mine q_ag"
  refine f_own 99 (by kernel_rfl) rfl ?_
  refine f_own 101 (by kernel_rfl) rfl ?_
  refine f_own 99 (by kernel_rfl) rfl ?_
  refine f_own 101 (by kernel_rfl) rfl ?_
  refine f_own 101 (by kernel_rfl) rfl ?_
  refine f_own 103 (by kernel_rfl) rfl ?_
  wtm_at "mine q_cc"
  wtm_at "mine q_al"
  wtm_at "mine q_ag"
  refine f_own 103 (by kernel_rfl) rfl ?_
  wtm_at "mine gw"
  refine e_brT (by rw [Bool.or_eq_true, Bool.or_eq_true]; exact .inl (.inr (by kernel_rfl))) ?_
  refine f_own 103 (by kernel_rfl) rfl ?_
  refine f_own 116 (by kernel_rfl) rfl ?_
  refine f_own 116 (by kernel_rfl) rfl ?_
  refine' f_upd 116 ?h ?ho ?hf ?hn ?hr ?_
  wtm_at "mine q_upr"
  refine f_own 116 (by kernel_rfl) rfl ?_
  wtm_at "mine q_dn"
  refine f_own 116 (by kernel_rfl) rfl ?_
  wtm_at "mine ck"
  refine e_bind ?_
  wtm_at "mine ck"
  refine e_bind ?_
  wtm_at "mine ck"
  refine e_bind ?_
  wtm_at "mine ck"
  refine e_bind ?_
  wtm_at "mine q_pu"
  wtm_at "mine ck"
  refine e_bind ?_
  wtm_at "mine q_pu"
  wtm_at "mine gw"
  rw [zid ?zh]
  case zh => kernel_rfl
  wtm_at "mine q_pu"
  wtm_at "mine q_pu"
  wtm_at "mine ck"
  refine e_bind ?_
  wtm_at "mine ck"
  refine e_bind ?_
  wtm_at "mine q_bF"
  wtm_at "mine q_pu"
  wtm_at "mine q_pu"
  wtm_at "mine q_pu"
  wtm_at "mine q_al"
  wtm_at "mine q_bF"
  wtm_at "mine ck"
  refine e_bind ?_
  wtm_at "mine q_bF"
  wtm_at "mine q_pu"
  wtm_at "mine q_bF"
  refine f_own 117 (by kernel_rfl) rfl ?_
  refine f_own 117 (by kernel_rfl) rfl ?_
  refine f_own 117 (by kernel_rfl) rfl ?_
  wtm_at "mine q_al"
  refine' f_upd 118 ?h ?ho ?hf ?hn ?hr ?_
  wtm_at "mine q_upr"
  refine' f_upd 118 ?h ?ho ?hf ?hn ?hr ?_
  wtm_at "mine q_upr"
  refine' f_upd 118 ?h ?ho ?hf ?hn ?hr ?_
  wtm_at "mine q_upr"
  refine f_own 117 (by kernel_rfl) rfl ?_
  refine' f_upd 117 ?h ?ho ?hf ?hn ?hr ?_
  wtm_at "mine q_upr"
  refine f_own 117 (by kernel_rfl) rfl ?_
  refine f_own 117 (by kernel_rfl) rfl ?_
  refine f_own 117 (by kernel_rfl) rfl ?_
  refine f_own 117 (by kernel_rfl) rfl ?_
  refine f_own 117 (by kernel_rfl) rfl ?_
  wtm_at "mine ck"
  refine e_bind ?_
  wtm_at "mine q_pu"
  wtm_at "mine ck"
  refine e_bind ?_
  wtm_at "mine q_pu"
  wtm_at "mine ck"
  refine e_bind ?_
  wtm_at "mine q_pu"
  wtm_at "mine ck"
  refine e_bind ?_
  wtm_at "mine gw"
  refine e_anyM (by exact rfl) flt_self ?_
  wtm_at "mine q_pu"
  refine f_own 118 (by kernel_rfl) rfl ?_
  refine' f_upd 118 ?h ?ho ?hf ?hn ?hr ?_
  wtm_at "mine q_upr"
  refine f_own 118 (by kernel_rfl) rfl ?_
  wtm_at "mine ck"
  refine e_bind ?_
  wtm_at "mine ck"
  refine e_bind ?_
  wtm_at "mine ck"
  refine e_bind ?_
  wtm_at "mine q_bF"
  wtm_at "mine q_pu"
  wtm_at "mine q_pu"
  wtm_at "mine q_pu"
  refine' f_upd 118 ?h ?ho ?hf ?hn ?hr ?_
  wtm_at "mine q_upr"
  refine f_own 118 (by kernel_rfl) rfl ?_
  refine f_own 118 (by kernel_rfl) rfl ?_
  refine f_own 118 (by kernel_rfl) rfl ?_
  refine f_own 117 (by kernel_rfl) rfl ?_
  wtm_at "mine ck"
  refine e_bind ?_
  wtm_at "mine q_bF"
  wtm_at "mine q_pu"
  refine f_own 117 (by kernel_rfl) rfl ?_
  wtm_at "mine q_fr"
  wtm_at "mine q_al"
  refine f_own 117 (by kernel_rfl) rfl ?_
  wtm_at "mine q_fr"
  refine f_own 117 (by kernel_rfl) rfl ?_
  refine' f_upd 117 ?h ?ho ?hf ?hn ?hr ?_
  wtm_at "mine q_upr"
  refine f_own 118 (by kernel_rfl) rfl ?_
  refine' f_upd 118 ?h ?ho ?hf ?hn ?hr ?_
  wtm_at "mine q_upr"
  refine f_own 118 (by kernel_rfl) rfl ?_
  refine' f_upd 118 ?h ?ho ?hf ?hn ?hr ?_
  wtm_at "mine q_upr"
  refine f_own 117 (by kernel_rfl) rfl ?_
  wtm_at "mine q_fr"
  refine f_own 117 (by kernel_rfl) rfl ?_
  refine' f_upd 117 ?h ?ho ?hf ?hn ?hr ?_
  wtm_at "mine q_upr"
  refine f_own 117 (by kernel_rfl) rfl ?_
  refine f_own 117 (by kernel_rfl) rfl ?_
  refine f_own 117 (by kernel_rfl) rfl ?_
  refine f_own 117 (by kernel_rfl) rfl ?_
  refine f_own 103 (by kernel_rfl) rfl ?_
  refine f_own 104 (by kernel_rfl) rfl ?_
  refine f_own 106 (by kernel_rfl) rfl ?_
  refine f_own 108 (by kernel_rfl) rfl ?_
  refine f_own 110 (by kernel_rfl) rfl ?_
  refine f_own 112 (by kernel_rfl) rfl ?_
  refine f_own 114 (by kernel_rfl) rfl ?_
  refine f_own 115 (by kernel_rfl) rfl ?_
  refine f_own 119 (by kernel_rfl) rfl ?_
  wtm_at "mine q_cc"
  wtm_at "mine q_ag"
  refine f_own 118 (by kernel_rfl) rfl ?_
  wtm_at "mine ck"
  refine e_bind ?_
  wtm_at "mine q_pu"
  wtm_at "mine ck"
  refine e_bind ?_
  wtm_at "mine ck"
  refine e_bind ?_
  wtm_at "mine ck"
  refine e_bind ?_
  wtm_at "mine q_bF"
  wtm_at "mine q_pu"
  wtm_at "mine q_pu"
  wtm_at "mine q_pu"
  wtm_at "mine q_cc"
  wtm_at "mine ck"
  refine e_bind ?_
  wtm_at "mine ck"
  refine e_bind ?_
  wtm_at "mine ck"
  refine e_bind ?_
  wtm_at "mine ck"
  refine e_bind ?_
  wtm_at "mine ck"
  refine e_bind ?_
  wtm_at "mine ck"
  refine e_bind ?_
  wtm_at "mine ck"
  refine e_bind ?_
  wtm_at "mine q_bF"
  wtm_at "mine q_pu"
  wtm_at "mine q_pu"
  wtm_at "mine q_pu"
  wtm_at "mine q_pu"
  wtm_at "mine q_pu"
  wtm_at "mine q_pu"
  wtm_at "mine ck"
  refine e_bind ?_
  wtm_at "mine ck"
  refine e_bind ?_
  wtm_at "mine ck"
  refine e_bind ?_
  wtm_at "mine q_bF"
  wtm_at "mine q_pu"
  wtm_at "mine q_pu"
  wtm_at "mine q_pu"
  wtm_at "mine q_pu"
  wtm_at "mine q_ag"
  wtm_at "mine q_al"
  wtm_at "mine q_dn"
  refine f_own 120 (by kernel_rfl) rfl ?_
  refine f_own 120 (by kernel_rfl) rfl ?_
  wtm_at "mine q_cc"
  refine f_own 120 (by kernel_rfl) rfl ?_
  wtm_at "mine q_ag"
  refine f_own 118 (by kernel_rfl) rfl ?_
  refine f_own 118 (by kernel_rfl) rfl ?_
  refine f_own 118 (by kernel_rfl) rfl ?_
  wtm_at "mine ck"
  refine e_bind ?_
  wtm_at "mine q_bT"
  wtm_at "mine q_pu"
  refine f_own 120 (by kernel_rfl) rfl ?_
  refine' f_upd 120 ?h ?ho ?hf ?hn ?hr ?_
  wtm_at "mine q_upr"
  refine f_own 120 (by kernel_rfl) rfl ?_
  refine' f_upd 120 ?h ?ho ?hf ?hn ?hr ?_
  wtm_at "mine q_upr"
  refine f_own 120 (by kernel_rfl) rfl ?_
  refine' f_upd 120 ?h ?ho ?hf ?hn ?hr ?_
  wtm_at "mine q_upr"
  wtm_at "mine q_dn"
  wtm_at "mine q_dn"
  wtm_at "mine q_fr"
  refine f_own 120 (by kernel_rfl) rfl ?_
  wtm_at "mine q_cc"
  refine f_own 120 (by kernel_rfl) rfl ?_
  wtm_at "mine q_ag"
  refine f_own 120 (by kernel_rfl) rfl ?_
  refine f_own 120 (by kernel_rfl) rfl ?_
  refine f_own 120 (by kernel_rfl) rfl ?_
  refine f_base (by kernel_rfl) rfl (KIn.at (a := 2) K rfl (by decide)) (by wtm_at "mine g_nT") ?_
  refine f_own 118 (by kernel_rfl) rfl ?_
  wtm_at "mine ck"
  refine e_bind ?_
  wtm_at "mine gw"
  rw [drop_self (s := SZ.s2742458400755230247x6)]
  case ev => exact rfl
  case e => exact rfl
  wtm_at "mine q_cc"
  wtm_at "mine q_ag"
  wtm_at "mine ck"
  refine e_bind ?_
  wtm_at "mine gw"
  refine e_brF (by rw [Bool.and_eq_false_iff]; exact .inr (by kernel_rfl)) ?_
  wtm_at "mine q_pu"
  refine f_own 118 (by kernel_rfl) rfl ?_
  refine f_own 118 (by kernel_rfl) rfl ?_
  wtm_at "mine q_al"
  wtm_at "mine q_dn"
  wtm_at "mine q_pu"
  wtm_at "mine q_dn"
  wtm_at "mine q_cc"
  refine f_own 121 (by kernel_rfl) rfl ?_
  refine f_own 118 (by kernel_rfl) rfl ?_
  refine f_own 118 (by kernel_rfl) rfl ?_
  refine f_own 118 (by kernel_rfl) rfl ?_
  refine f_own 118 (by kernel_rfl) rfl ?_
  wtm_at "mine q_ag"
  wtm_at "mine q_dn"
  wtm_at "mine q_dn"
  refine f_own 118 (by kernel_rfl) rfl ?_
  refine f_own 118 (by kernel_rfl) rfl ?_
  wtm_at "mine q_cc"
  refine f_own 118 (by kernel_rfl) rfl ?_
  wtm_at "mine q_ag"
  wtm_at "mine q_dn"
  wtm_at "mine q_dn"
  wtm_at "mine q_pu"
  wtm_at "mine q_fr"
  refine f_own 97 (by kernel_rfl) rfl ?_
  refine' f_upd 97 ?h ?ho ?hf ?hn ?hr ?_
  wtm_at "mine q_upr"
  wtm_at "mine q_pu"
  refine f_own 97 (by kernel_rfl) rfl ?_
  wtm_at "mine q_pu"
  wtm_at "mine q_dn"
  refine' f_end (a := .ref (ad X 118)) ?z fun h D => ?_
  case z => kernel_rfl
  have kp : ∀ b o, X.h₀.get? b = some o → h.get? b = some o := fun b o e => D.keep b o e (by rw [hT]; exact List.not_mem_nil)
  refine cmp_fin2 (C := C) D kp q rfl ?_
  exact {
    fk := .inl (D.new 118 rfl)
    fn := .inl (D.new 117 rfl)
    fm := .inl (D.new 119 rfl)
    fce := .inl (D.new 98 rfl)
    ek := D.cell 118 _ (by kernel_rfl)
    en := D.cell 117 _ (by kernel_rfl)
    em := D.cell 119 _ (by kernel_rfl)
    ece := cell_at (D.cell 98 _ rfl) (by kernel_rfl)
    ff0 := .inl (D.new 104 rfl)
    ef0 := D.cell 104 _ (by kernel_rfl)
    fc0 := .inr H.f0
    ec0 := codeRec_eq (codeRec_to H.r0 fun o => kp _ o) (by kernel_rfl)
    ff1 := .inl (D.new 106 rfl)
    ef1 := D.cell 106 _ (by kernel_rfl)
    fc1 := .inr H.f1
    ec1 := codeRec_eq (codeRec_to H.r1 fun o => kp _ o) (by kernel_rfl)
    ff2 := .inl (D.new 108 rfl)
    ef2 := D.cell 108 _ (by kernel_rfl)
    fc2 := .inr H.f2
    ec2 := codeRec_eq (codeRec_to H.r2 fun o => kp _ o) (by kernel_rfl)
    ff3 := .inl (D.new 110 rfl)
    ef3 := D.cell 110 _ (by kernel_rfl)
    fc3 := .inr H.f3
    ec3 := codeRec_eq (codeRec_to H.r3 fun o => kp _ o) (by kernel_rfl)
    ff4 := .inl (D.new 112 rfl)
    ef4 := D.cell 112 _ (by kernel_rfl)
    fc4 := .inr H.f4
    ec4 := codeRec_eq (codeRec_to H.r4 fun o => kp _ o) (by kernel_rfl)
    ff5 := .inl (D.new 114 rfl)
    ef5 := D.cell 114 _ (by kernel_rfl)
    fc5 := .inr H.f5
    ec5 := codeRec_eq (codeRec_to H.r5 fun o => kp _ o) (by kernel_rfl)
  }

end
def objEs (o : Obj) : Array DictEntry := match o.data with | .dict es _ => es | _ => #[]
def keysOk (es : Array DictEntry) : Bool := es.toList.all fun e => match e.key with | .str .. => true | _ => false
theorem strKeys_of {es : Array DictEntry} (h : keysOk es = true) : StrKeys es := by
  intro e he
  have := List.all_eq_true.mp h e (Array.mem_toList_iff.mpr he)
  cases q : e.key <;> rw [q] at this <;> first | exact ⟨_, _, rfl⟩ | cases this
noncomputable def gl (P : Params) : Str → Option Value := nsFind (objEs (zo3 P))
noncomputable def bi (P : Params) : Str → Option Value := nsFind (objEs (zo0 P))
theorem ns_of {h : Heap} {a : Addr} {o : Obj} {es : Array DictEntry} {ep : Nat} (e : h.get? a = some o) (hd : o.data = .dict es ep) (hk : keysOk es = true) : h.Ns a (nsFind (objEs o)) :=
  ⟨_, _, _, e, hd, strKeys_of hk, fun _ => by unfold objEs; rw [hd]⟩
theorem gl_ns {P : Params} {h : Heap} (K : KIn P h) : h.Ns mainGlobals (gl P) := ns_of (K 3 _ rfl (by decide)) rfl (by kernel_rfl)
theorem bi_ns {P : Params} {h : Heap} (K : KIn P h) : h.Ns builtinsNs (bi P) := ns_of (K 0 _ rfl (by decide)) rfl (by kernel_rfl)
theorem nolim {P : Params} {h : Heap} (K : KIn P h) : h.NoLimit := ⟨_, ns_of (K 2 _ rfl (by decide)) rfl (by kernel_rfl), by kernel_rfl⟩
theorem blt {P : Params} {h : Heap} (K : KIn P h) : ∃ o, h.get? 4 = some o ∧ o.cls = .type "module" ∧ o.dict = some builtinsNs ∧ o.data = .plain :=
  ⟨_, K 4 _ rfl (by decide), by kernel_rfl, by kernel_rfl, by kernel_rfl⟩
theorem glcmp_to_key {P : Params} : gl P (Str.ofString "cmp_to_key") = some (.ref 21) := by kernel_rfl
theorem glinitial_missing {P : Params} : gl P (Str.ofString "_initial_missing") = some (.ref 22) := by kernel_rfl
theorem glreduce {P : Params} : gl P (Str.ofString "reduce") = some (.ref 30) := by kernel_rfl
theorem glsearch_reverse {P : Params} : gl P (Str.ofString "search_reverse") = some (.ref 37) := by kernel_rfl
theorem gllaw_visit {P : Params} : gl P (Str.ofString "_law_visit") = some (.ref 44) := by kernel_rfl
theorem gllaw_visits {P : Params} : gl P (Str.ofString "_law_visits") = some (.ref 51) := by kernel_rfl
theorem gllaw_hours {P : Params} : gl P (Str.ofString "_law_hours") = some (.ref 58) := by kernel_rfl
theorem gllaw_program {P : Params} : gl P (Str.ofString "_law_program") = some (.ref 65) := by kernel_rfl
theorem gllaw_lately {P : Params} : gl P (Str.ofString "_law_lately") = some (.ref 72) := by kernel_rfl
theorem gllaw_to_front {P : Params} : gl P (Str.ofString "_law_to_front") = some (.ref 77) := by kernel_rfl
theorem gllaw_five {P : Params} : gl P (Str.ofString "_law_five") = some (.ref 84) := by kernel_rfl
theorem gllaw_fives {P : Params} : gl P (Str.ofString "_law_fives") = some (.ref 91) := by kernel_rfl
theorem gn_sorted {P : Params} : gl P (Str.ofString "sorted") = none := by kernel_rfl
theorem bi_sorted {P : Params} : bi P (Str.ofString "sorted") = some (.builtin "sorted") := by kernel_rfl
theorem gn_max {P : Params} : gl P (Str.ofString "max") = none := by kernel_rfl
theorem bi_max {P : Params} : bi P (Str.ofString "max") = some (.builtin "max") := by kernel_rfl
theorem gn_len {P : Params} : gl P (Str.ofString "len") = none := by kernel_rfl
theorem bi_len {P : Params} : bi P (Str.ofString "len") = some (.builtin "len") := by kernel_rfl
theorem gn_sum {P : Params} : gl P (Str.ofString "sum") = none := by kernel_rfl
theorem bi_sum {P : Params} : bi P (Str.ofString "sum") = some (.builtin "sum") := by kernel_rfl
theorem gn_abs {P : Params} : gl P (Str.ofString "abs") = none := by kernel_rfl
theorem bi_abs {P : Params} : bi P (Str.ofString "abs") = some (.builtin "abs") := by kernel_rfl
theorem gn_iter {P : Params} : gl P (Str.ofString "iter") = none := by kernel_rfl
theorem bi_iter {P : Params} : bi P (Str.ofString "iter") = some (.builtin "iter") := by kernel_rfl
theorem gn_next {P : Params} : gl P (Str.ofString "next") = none := by kernel_rfl
theorem bi_next {P : Params} : bi P (Str.ofString "next") = some (.builtin "next") := by kernel_rfl
theorem gn_range {P : Params} : gl P (Str.ofString "range") = none := by kernel_rfl
theorem bi_range {P : Params} : bi P (Str.ofString "range") = some (.type "range") := by kernel_rfl
theorem gn_object {P : Params} : gl P (Str.ofString "object") = none := by kernel_rfl
theorem bi_object {P : Params} : bi P (Str.ofString "object") = some (.type "object") := by kernel_rfl
local macro_rules | `(tactic| wtm_at "mine m_gl") => `(tactic| first
  | with_reducible exact glcmp_to_key
  | with_reducible exact glinitial_missing
  | with_reducible exact glreduce
  | with_reducible exact glsearch_reverse
  | with_reducible exact gllaw_visit
  | with_reducible exact gllaw_visits
  | with_reducible exact gllaw_hours
  | with_reducible exact gllaw_program
  | with_reducible exact gllaw_lately
  | with_reducible exact gllaw_to_front
  | with_reducible exact gllaw_five
  | with_reducible exact gllaw_fives)
local macro_rules | `(tactic| wtm_at "mine m_gn") => `(tactic| first
  | with_reducible exact gn_sorted
  | with_reducible exact gn_max
  | with_reducible exact gn_len
  | with_reducible exact gn_sum
  | with_reducible exact gn_abs
  | with_reducible exact gn_iter
  | with_reducible exact gn_next
  | with_reducible exact gn_range
  | with_reducible exact gn_object)
local macro_rules | `(tactic| wtm_at "mine m_bi") => `(tactic| first
  | with_reducible exact bi_sorted
  | with_reducible exact bi_max
  | with_reducible exact bi_len
  | with_reducible exact bi_sum
  | with_reducible exact bi_abs
  | with_reducible exact bi_iter
  | with_reducible exact bi_next
  | with_reducible exact bi_range
  | with_reducible exact bi_object)

abbrev sp39 : Spec := [((58, 12), "_law_visit.<locals>.<lambda>"), ((59, 17), "_law_visit.<locals>.<lambda>")]
abbrev sp60 : Spec := [((82, 4), "_law_program.<locals>.search"), ((89, 11), "_law_program.<locals>.<lambda>")]
abbrev sp67 : Spec := [((94, 4), "_law_lately.<locals>.compare")]
def TS : List (Addr × Spec) := [(39, sp39), (60, sp60), (67, sp67)]
abbrev Ext := ExtT Tb
def NoTb (a : Addr) : Prop := a ∉ Tb
/-- a code object or a table of such -/
def isCT (o : Obj) : Prop := ∃ vs, o.data = .fields vs ∧ (o.cls = .none ∨ ∃ q t, vs[1]? = some (.str q t))
theorem codeRec_ct {h h' : Heap} {a : Addr} {q : Str} (x : h.CodeRec (.ref a) q) (k : ∀ b o, h.get? b = some o → isCT o → h'.get? b = some o) : h'.CodeRec (.ref a) q := by
  obtain ⟨c, o, vs, t, e, r, d, z⟩ := x
  cases e
  exact ⟨_, o, vs, t, rfl, k _ _ r ⟨vs, d, .inr ⟨_, _, z⟩⟩, d, z⟩
theorem KCd.str1 {F : Addr → Prop} {h : Heap} {D : KC} (x : KCd F h D) : ∃ q t, (#[D.vs 0, D.vs 1] : Array Value)[1]? = some (.str q t) := by
  have c := x.cc
  have : ∃ q t, D.vs 1 = .str q t := by
    revert c
    cases D.vs 1 <;> intro c <;> first | exact ⟨_, _, rfl⟩ | cases c
  obtain ⟨q, t, e⟩ := this
  exact ⟨q, t, congrArg some e⟩
theorem KCd.ct {F : Addr → Prop} {h h' : Heap} {D : KC} (x : KCd F h D) (k : ∀ b o, h.get? b = some o → isCT o → h'.get? b = some o) : KCd F h' D where
  fc := x.fc
  fP := x.fP
  ec := k _ _ x.ec ⟨_, rfl, .inr (x.str1)⟩
  eP := k _ _ x.eP ⟨_, rfl, .inl rfl⟩
  cc := x.cc
  f0 := x.f0
  r0 := codeRec_ct x.r0 k
  f1 := x.f1
  r1 := codeRec_ct x.r1 k
  f2 := x.f2
  r2 := codeRec_ct x.r2 k
  f3 := x.f3
  r3 := codeRec_ct x.r3 k
  f4 := x.f4
  r4 := codeRec_ct x.r4 k
  f5 := x.f5
  r5 := codeRec_ct x.r5 k
/-- the table of cmp_to_key: empty, or full -/
def KTab (h : Heap) : Prop := h.get? 16 = some emptyTab ∨ ∃ C, h.get? 16 = some (kTab16 C.c) ∧ KCd NoTb h C
theorem KTab.ct {h h' : Heap} (x : KTab h) (e16 : ∀ o, h.get? 16 = some o → h'.get? 16 = some o) (k : ∀ b o, h.get? b = some o → isCT o → h'.get? b = some o) : KTab h' :=
  x.elim (fun e => .inl (e16 _ e)) fun ⟨C, e, y⟩ => .inr ⟨C, e16 _ e, y.ct k⟩
theorem KTab.to {h h' : Heap} (x : KTab h) (e16 : ∀ o, h.get? 16 = some o → h'.get? 16 = some o) (X : Ext h h') : KTab h' :=
  x.elim (fun e => .inl (e16 _ e)) fun ⟨C, e, y⟩ => .inr ⟨C, e16 _ e, y.to (fun _ f => f) fun a o f e => X a o e f⟩
structure Tabs (h : Heap) : Prop where
  tt : TabsT TS Tb h
  kt : KTab h
theorem Tabs.stays {h h' : Heap} (hT : ∀ e ∈ TS, e.1 ∈ Tb) (x : Tabs h) (k : ∀ b o, h.get? b = some o → b ∈ Tb → h'.get? b = some o) (k' : Ext h h') : Tabs h' :=
  ⟨x.tt.stays hT k k', x.kt.to (fun o e => k _ o e (by decide)) k'⟩
def NoCode (dd : Obj → Prop) : Prop := ∀ o vs, dd o → o.data = .fields vs → o.cls ≠ .none ∧ ∀ q t, vs[1]? ≠ some (.str q t)
theorem nc_ns {m} : NoCode (dNs m) := fun o vs h e => by obtain ⟨es, ep, h, _⟩ := h; rw [h] at e; cases e
theorem nc_cell {v} : NoCode (dCell v) := fun o vs h e => by rw [h] at e; cases e
theorem nc_list {v} : NoCode (dList v) := fun o vs h e => by obtain ⟨n, rfl⟩ := h; cases e
theorem nc_lit {l i} : NoCode (dLIt l i) := fun o vs h e => ⟨by rw [h.1]; exact fun z => (nomatch z), by rw [h.2] at e; cases e; exact fun q t z => by cases z⟩
theorem nc_fields {c a b r} (hb : ∀ q t, b ≠ .str q t) : NoCode (dFields c (a :: b :: r)) := fun o vs h e => by
  cases h; cases e
  exact ⟨fun z => (nomatch z), fun q t z => hb q t (Option.some.inj z)⟩
theorem nc_tup {v} : NoCode (dTup v) := fun o vs h e => by obtain ⟨n, rfl⟩ := h; cases e
theorem nc_fun {c dd fd sl} : NoCode (dObj ⟨c, dd, .func fd, sl⟩) := fun o vs h e => by cases h; cases e
theorem nc_dict {c dd es n sl} : NoCode (dObj ⟨c, dd, .dict es n, sl⟩) := fun o vs h e => by cases h; cases e
theorem nc_seq {c dd es n sl} : NoCode (dObj ⟨c, dd, .seq es n, sl⟩) := fun o vs h e => by cases h; cases e
theorem nc_plain {c dd sl} : NoCode (dObj ⟨c, dd, .plain, sl⟩) := fun o vs h e => by cases h; cases e
/-- the state of a frame: a base B that stands, a ledger of what the frame made and may change -/
structure St (w : World) (B h : Heap) (own : Led) : Prop where
  keep : Ext B h
  nw : ∀ p ∈ own, At h p.1 p.2 ∧ B.get? p.1 = none ∧ p.1 ∉ Tb ∧ NoCode p.2
  nd : (own.map (·.1)).Nodup
  tb : Tabs h
  kin : KIn w.params B
theorem KIn.ext {P : Params} {h h' : Heap} (K : KIn P h) (x : Ext h h') : KIn P h' := fun a o e t => x a o (K a o e t) (ktb t)
theorem tb_lt {P : Params} {h : Heap} (T : Tabs h) : ∀ a ∈ Tb, h.get? a ≠ none := by
  intro a ha
  have : ∀ a ∈ Tb, (∃ e ∈ TS, e.1 = a) ∨ a = 16 := by decide
  rcases this a ha with ⟨e, he, rfl⟩ | rfl
  · obtain ⟨ps, h1, _⟩ := T.tt e he
    rw [h1]; exact fun q => nomatch q
  · rcases T.kt with e | ⟨C, e, _⟩ <;> (rw [e]; exact fun q => nomatch q)
section
variable {w : World} {B h h' : Heap} {own own' : Led} {a : Addr} {dd dd' : Obj → Prop}
theorem St.mem (S : St w B h own) (m : LMem a dd own) : At h a dd := (S.nw _ m.mem).1
theorem St.old (S : St w B h own) (x : At B a dd) (q : a ∉ Tb) : At h a dd := x.ext S.keep q
theorem St.kinh (S : St w B h own) : KIn w.params h := S.kin.ext S.keep
theorem fresh_get {h : Heap} : h.get? h.objs.size = none := by
  cases q : h.get? h.objs.size with
  | none => rfl
  | some o => exact absurd (Heap.lt_size q) (Nat.lt_irrefl _)
theorem St.fresh (S : St w B h own) : B.get? h.objs.size = none ∧ h.objs.size ∉ Tb ∧ h.objs.size ∉ own.map (·.1) := by
  have hT : h.objs.size ∉ Tb := fun hm => tb_lt (P := w.params) S.tb _ hm fresh_get
  refine ⟨?_, hT, fun hm => ?_⟩
  · cases q : B.get? h.objs.size with
    | none => rfl
    | some o => have := S.keep _ _ q hT; rw [fresh_get] at this; cases this
  · obtain ⟨p, hp, e⟩ := List.mem_map.mp hm
    have := (S.nw p hp).1.lt
    rw [e] at this
    exact Nat.lt_irrefl _ this
theorem ts_tb : ∀ e ∈ TS, e.1 ∈ Tb := by decide
theorem St.alloc (S : St w B h own) {o : Obj} (hd : dd o) (nc : NoCode dd) (hf : o.isFreed = false) : St w B (h.push o) ((h.objs.size, dd) :: own) := by
  obtain ⟨f1, f2, f3⟩ := S.fresh
  refine ⟨S.keep.push o, fun p hp => ?_, ?_, S.tb.stays ts_tb (fun b o' e _ => Heap.get?_push_of_some _ e) (ExtT.all fun b o' e => Heap.get?_push_of_some _ e), S.kin⟩
  · rcases List.mem_cons.mp hp with rfl | hp
    · exact ⟨⟨o, Heap.get?_push_size _ hf, hd⟩, f1, f2, nc⟩
    · exact ⟨(S.nw p hp).1.keeps fun b o' e => Heap.get?_push_of_some _ e, (S.nw p hp).2⟩
  · rw [List.map_cons, List.nodup_cons]
    exact ⟨f3, S.nd⟩
/-- a change of one cell of the ledger -/
theorem St.upd (S : St w B h own) (u : LUp a dd dd' own own') (nc' : NoCode dd') (hs : Heap.SameBut a h h') (hd : At h' a dd') : St w B h' own' := by
  obtain ⟨z1, z2, z3, nc⟩ := S.nw _ u.mem
  refine ⟨fun b o e q => (hs.2 b ?_).trans (S.keep b o e q), fun p hp => ?_, by rw [u.keys]; exact S.nd, ?_, S.kin⟩
  · rintro rfl
    rw [z2] at e; cases e
  · rcases u.back S.nd p hp with rfl | ⟨hp, ne⟩
    · exact ⟨hd, z2, z3, nc'⟩
    · exact ⟨(S.nw p hp).1.same hs ne, (S.nw p hp).2⟩
  · have k : ∀ b o, h.get? b = some o → b ∈ Tb → h'.get? b = some o := fun b o e hb => (hs.2 b fun q => z3 (q ▸ hb)).trans e
    refine ⟨fun e he => ?_, S.tb.kt.ct (fun o e => k _ o e (by decide)) fun b o e ct => ?_⟩
    rotate_left
    · by_cases hca : b = a
      · subst hca
        obtain ⟨o', e1, e2⟩ := (S.nw _ u.mem).1
        rw [e1] at e; cases e
        obtain ⟨vs, d, r⟩ := ct
        rcases r with r | ⟨q, t, r⟩
        · exact absurd r (nc _ _ e2 d).1
        · exact absurd r ((nc _ _ e2 d).2 _ _)
      · exact (hs.2 b hca).trans e
    obtain ⟨ps, h1, h2, h3⟩ := S.tb.tt e he
    refine ⟨ps, k _ _ h1 (ts_tb e he), h2, fun s hs' p cv hl hcol hc => ?_⟩
    obtain ⟨c, rfl, hT, hr⟩ := h3 s hs' p cv hl hcol hc
    refine ⟨c, rfl, hT, ?_⟩
    obtain ⟨c', o, vs, t, e', g, d, r⟩ := hr
    cases e'
    by_cases hca : c = a
    · subst hca
      obtain ⟨o', e1, e2⟩ := (S.nw _ u.mem).1
      rw [e1] at g; cases g
      exact absurd r ((nc _ _ e2 d).2 _ _)
    · exact ⟨c, o, vs, t, rfl, (hs.2 c hca).trans g, d, r⟩
def New (h h' : Heap) (new : Led) : Prop := ∀ p ∈ new, At h' p.1 p.2 ∧ h.get? p.1 = none ∧ p.1 ∉ Tb ∧ NoCode p.2
/-- a call came back: all that stood stands, the tables are in some good state, new things are there -/
theorem St.call {new : Led} (S : St w B h own) (x : Ext h h') (T : Tabs h') (hn : New h h' new) (nd : (new.map (·.1)).Nodup) : St w B h' (new ++ own) := by
  refine ⟨S.keep.trans x, fun p hp => ?_, ?_, T, S.kin⟩
  · rcases List.mem_append.mp hp with hp | hp
    · refine ⟨(hn p hp).1, ?_, (hn p hp).2.2⟩
      cases q : B.get? p.1 with
      | none => rfl
      | some o => have := S.keep _ _ q (hn p hp).2.2.1; rw [(hn p hp).2.1] at this; cases this
    · exact ⟨(S.nw p hp).1.ext x (S.nw p hp).2.2.1, (S.nw p hp).2⟩
  · rw [List.map_append, List.nodup_append]
    refine ⟨nd, S.nd, fun a ha b hb e => ?_⟩
    obtain ⟨p, hp, rfl⟩ := List.mem_map.mp ha
    obtain ⟨q, hq, rfl⟩ := List.mem_map.mp hb
    exact (S.nw q hq).1.nn (e ▸ (hn p hp).2.1)
theorem St.call0 (S : St w B h own) (x : Ext h h') (T : Tabs h') : St w B h' own := S.call (new := []) x T (fun _ hp => nomatch hp) .nil
/-- an untold part of the ledger goes into the base -/
theorem St.freeze {new : Led} (S : St w B h (new ++ own)) : ∃ B', (∀ b o, B.get? b = some o → b ∉ Tb → B'.get? b = some o) ∧ (∀ p ∈ new, At B' p.1 p.2) ∧ St w B' h own ∧ (∀ b o, h.get? b = some o → b ∉ own.map (·.1) → b ∉ Tb → B'.get? b = some o) := by
  have hh : ∀ b o, h.get? b = some o → b ∉ own.map (·.1) → (hideAll h (own.map (·.1))).get? b = some o := fun b o e q => hideAll_get _ e q
  have nd := S.nd
  rw [List.map_append, List.nodup_append] at nd
  refine ⟨hideAll h (own.map (·.1)), fun b o e q => hh b o (S.keep b o e q) fun hm => ?_, fun p hp => ?_, ⟨fun b o e q => of_hideAll _ e, fun p hp => ?_, nd.2.1, S.tb, ?_⟩, fun b o e q _ => hh b o e q⟩
  · obtain ⟨p, hp, rfl⟩ := List.mem_map.mp hm
    rw [(S.nw p (List.mem_append_right _ hp)).2.1] at e; cases e
  · obtain ⟨o, e, r⟩ := (S.nw p (List.mem_append_left _ hp)).1
    exact ⟨o, hh _ _ e fun hm => nd.2.2 _ (List.mem_map_of_mem hp) _ hm rfl, r⟩
  · exact ⟨(S.nw p (List.mem_append_right _ hp)).1, hideAll_none _ (List.mem_map_of_mem hp), (S.nw p (List.mem_append_right _ hp)).2.2⟩
  · intro a o e t
    refine hh _ _ (S.kinh a o e t) fun hm => ?_
    obtain ⟨p, hp, rfl⟩ := List.mem_map.mp hm
    have := S.kin p.1 o e t
    rw [(S.nw p (List.mem_append_right _ hp)).2.1] at this; cases this
end
section
variable {w : World} {A : Around} {E : Value → Shared → Prop} {B h : Heap} {g : Array GenState} {d : Drawn} {t : Nat} {os : OsState} {own own' : Led} {a L : Addr}
variable {cn : Str} {cs : Scope} {cd : Value} {cl : List (Str × Addr)} {x : Str} {pos : Pos} {v : Value} {l : List (Str × Value)} {c f : Addr} {Q : Value → Shared → Prop}
abbrev wpM (w : World) (A : Around) {α : Type} (m : Sem α) (Q : α → Shared → Prop) (E : Value → Shared → Prop) (s : Shared) : Prop := wpAny (model Pr w) A m Q E s
theorem r_local (S : St w B h own) (hm : LMem L (dNs (lk l)) own) (hv : lk l x = some v) (q : Q v ⟨h, g, d, t, os⟩)
    (hk : cs.kind = .function := by rfl) (hx : (envX cn cs L f cd cl).kindOf x = some .local := by rfl) (hb : (x == ("__debug__" : Str)) = false := by decide) :
    wpM w A (eval (.Name x pos) (envX cn cs L f cd cl)) Q E ⟨h, g, d, t, os⟩ := wpAny_Name (wpAny_loadName_local hk hx (S.mem hm).ns hv q) hb
theorem r_cell (hc : cl.lookup x = some c) (hm : At h c (dCell (some v))) (q : Q v ⟨h, g, d, t, os⟩)
    (hk : cs.kind = .function := by rfl) (hx : (envX cn cs L f cd cl).kindOf x = some .cell := by rfl) (hb : (x == ("__debug__" : Str)) = false := by decide) :
    wpM w A (eval (.Name x pos) (envX cn cs L f cd cl)) Q E ⟨h, g, d, t, os⟩ := wpAny_Name (wpAny_loadName_cell hk hx hc hm.cell q) hb
theorem r_free (hc : cl.lookup x = some c) (hm : At h c (dCell (some v))) (q : Q v ⟨h, g, d, t, os⟩)
    (hk : cs.kind = .function := by rfl) (hx : (envX cn cs L f cd cl).kindOf x = some .free := by rfl) (hb : (x == ("__debug__" : Str)) = false := by decide) (hn : (x == ("__classdict__" : Str)) = false := by decide) :
    wpM w A (eval (.Name x pos) (envX cn cs L f cd cl)) Q E ⟨h, g, d, t, os⟩ := wpAny_Name (wpAny_loadName_free hk hx hc hm.cell q hn) hb
theorem r_glob (S : St w B h own) (hv : gl w.params x = some v) (q : Q v ⟨h, g, d, t, os⟩)
    (hk : cs.kind = .function := by rfl) (hx : (envX cn cs L f cd cl).kindOf x = some .globalImplicit := by rfl) (hb : (x == ("__debug__" : Str)) = false := by decide) :
    wpM w A (eval (.Name x pos) (envX cn cs L f cd cl)) Q E ⟨h, g, d, t, os⟩ := Name_function_global hk hx (loadGlobal_global (env := envX cn cs L f cd cl) (gl_ns S.kinh) hv q) hb
theorem r_built (S : St w B h own) (hn : gl w.params x = none) (hv : bi w.params x = some v) (q : Q v ⟨h, g, d, t, os⟩)
    (hk : cs.kind = .function := by rfl) (hx : (envX cn cs L f cd cl).kindOf x = some .globalImplicit := by rfl) (hb : (x == ("__debug__" : Str)) = false := by decide) :
    wpM w A (eval (.Name x pos) (envX cn cs L f cd cl)) Q E ⟨h, g, d, t, os⟩ := Name_function_global hk hx (loadGlobal_builtin (env := envX cn cs L f cd cl) (gl_ns S.kinh) hn (bi_ns S.kinh) hv q) hb
theorem r_int {i : Int} {k : Nat} {env : Env} (q : ∀ t', Q (.int i t') ⟨h, g, d, t + 1, os⟩) : wpM w A (eval (.Constant (.int i) k pos) env) Q E ⟨h, g, d, t, os⟩ := wpAny_Constant_int (q _)
theorem r_store {Q : Unit → Shared → Prop} (S : St w B h own) (u : LUp L (dNs (lk l)) (dNs (lk (setL x v l))) own own') (q : ∀ h' t', St w B h' own' → Q () ⟨h', g, d, t', os⟩)
    (hk : cs.kind = .function := by rfl) (hx : (envX cn cs L f cd cl).kindOf x = some .local := by rfl) : wpM w A (storeName (envX cn cs L f cd cl) x v) Q E ⟨h, g, d, t, os⟩ :=
  wpAny_storeName_local hx ((S.nw _ u.mem).1).ns (fun h' hn hs => q h' _ (S.upd u nc_ns hs (At.of_ns (by rw [lk_setL]; exact hn))))
    (by show (cs.kind == .class || (cs.kind == .module && L != mainGlobals)) = false; rw [hk]; rfl)
theorem r_storeC {Q : Unit → Shared → Prop} {v₀ : Option Value} (S : St w B h own) (hc : cl.lookup x = some c) (u : LUp c (dCell v₀) (dCell (some v)) own own') (q : ∀ h' t', St w B h' own' → Q () ⟨h', g, d, t', os⟩)
    (hk : cs.kind = .function := by rfl) (hx : (envX cn cs L f cd cl).kindOf x = some .cell := by rfl) : wpM w A (storeName (envX cn cs L f cd cl) x v) Q E ⟨h, g, d, t, os⟩ :=
  wpAny_storeName_cell hk hx hc (S.nw _ u.mem).1 (fun h' hn hs => q h' _ (S.upd u nc_cell hs hn))
/-- what a contract says of a call -/
def Does (w : World) (A : Around) {α : Type} (m : Sem α) (h : Heap) (Post : α → Led → Heap → Prop) : Prop :=
  ∀ (Q : α → Shared → Prop) (E : Value → Shared → Prop) (g : Array GenState) (d : Drawn) (t : Nat) (os : OsState),
    (∀ v new h' t', Ext h h' → Tabs h' → New h h' new → (new.map (·.1)).Nodup → Post v new h' → Q v ⟨h', g, d, t', os⟩) → wpM w A m Q E ⟨h, g, d, t, os⟩
structure AOk (A : Around) (n u : Nat) : Prop where
  hd : A.handled = none
  dp : A.depth ≤ n
  un : A.units ≤ u
theorem AOk.in1 {n u : Nat} (a : AOk A n u) : AOk A.in1 n (u + 1) := ⟨a.hd, a.dp, Nat.succ_le_succ a.un⟩
theorem AOk.deeper {n u : Nat} {env : Env} (a : AOk A n u) : AOk (A.deeper env) (n + 1) (u + 3) := ⟨a.hd, Nat.succ_le_succ a.dp, Nat.add_le_add_right a.un 3⟩
theorem AOk.le {n u n' u' : Nat} (a : AOk A n u) (hn : n ≤ n' := by omega) (hu : u ≤ u' := by omega) : AOk A n' u' := ⟨a.hd, Nat.le_trans a.dp hn, Nat.le_trans a.un hu⟩
theorem AOk.mark {n u : Nat} (a : AOk A n u) : AOk (A.mark none) n u := ⟨a.hd, a.dp, a.un⟩
/-- the end of a frame: what it made goes -/
theorem back {α : Type} {Post : α → Led → Heap → Prop} {h₀ h' : Heap} {new rest : Led} {v : α} {Q : α → Shared → Prop} {t' : Nat} (S : St w h₀ h' (new ++ rest))
    (q : ∀ v new h' t', Ext h₀ h' → Tabs h' → New h₀ h' new → (new.map (·.1)).Nodup → Post v new h' → Q v ⟨h', g, d, t', os⟩) (hp : Post v new h') : Q v ⟨h', g, d, t', os⟩ := by
  have nd := S.nd
  rw [List.map_append, List.nodup_append] at nd
  exact q v new h' t' S.keep S.tb (fun p hp => S.nw p (List.mem_append_left _ hp)) nd.1 hp
/-- the same where the base has grown -/
theorem backB {α : Type} {Post : α → Led → Heap → Prop} {h₀ h' : Heap} {new rest : Led} {v : α} {Q : α → Shared → Prop} {t' : Nat} (X : Ext h₀ B) (S : St w B h' (new ++ rest))
    (q : ∀ v new h' t', Ext h₀ h' → Tabs h' → New h₀ h' new → (new.map (·.1)).Nodup → Post v new h' → Q v ⟨h', g, d, t', os⟩) (hp : Post v new h') : Q v ⟨h', g, d, t', os⟩ := by
  have nd := S.nd
  rw [List.map_append, List.nodup_append] at nd
  refine q v new h' t' (X.trans S.keep) S.tb (fun p hp => ?_) nd.1 hp
  obtain ⟨z1, z2, z3, z4⟩ := S.nw p (List.mem_append_left _ hp)
  refine ⟨z1, ?_, z3, z4⟩
  cases e : h₀.get? p.1 with
  | none => rfl
  | some o => have := X _ _ e z3; rw [z2] at this; cases this
/-- the same, what is handed out is a part of the ledger, in its order -/
theorem backS {α : Type} {Post : α → Led → Heap → Prop} {h₀ h' : Heap} {new : Led} {v : α} {Q : α → Shared → Prop} {t' : Nat} (X : Ext h₀ B) (S : St w B h' own)
    (q : ∀ v new h' t', Ext h₀ h' → Tabs h' → New h₀ h' new → (new.map (·.1)).Nodup → Post v new h' → Q v ⟨h', g, d, t', os⟩) (hp : Post v new h') (hs : new.Sublist own) : Q v ⟨h', g, d, t', os⟩ := by
  refine q v new h' t' (X.trans S.keep) S.tb (fun p hp => ?_) (S.nd.sublist (hs.map _)) hp
  obtain ⟨z1, z2, z3, z4⟩ := S.nw p (hs.subset hp)
  refine ⟨z1, ?_, z3, z4⟩
  cases e : h₀.get? p.1 with
  | none => rfl
  | some o => have := X _ _ e z3; rw [z2] at this; cases this
theorem St.sub (S : St w B h own) (hs : ∀ p ∈ own', p ∈ own) (nd : (own'.map (·.1)).Nodup) : St w B h own' := ⟨S.keep, fun p hp => S.nw p (hs p hp), nd, S.tb, S.kin⟩
theorem St.tl {p : Addr × (Obj → Prop)} (S : St w B h (p :: own)) : St w B h own := S.sub (fun _ hp => .tail _ hp) (by have := S.nd; rw [List.map_cons, List.nodup_cons] at this; exact this.2)
/-- the first of the ledger changes in an unknown way and goes -/
theorem St.lose {h' : Heap} {dd : Obj → Prop} (S : St w B h ((a, dd) :: own)) (x : Heap.ExtBut a h h') : St w B h' own := by
  obtain ⟨z1, z2, z3, nc⟩ := S.nw _ (.head _)
  have nd := S.nd
  rw [List.map_cons, List.nodup_cons] at nd
  refine ⟨fun b o e q => x _ _ ?_ (S.keep b o e q), fun p hp => ⟨?_, (S.nw p (.tail _ hp)).2⟩, nd.2, ?_, S.kin⟩
  · rintro rfl
    rw [z2] at e; cases e
  · obtain ⟨o, e, r⟩ := (S.nw p (.tail _ hp)).1
    exact ⟨o, x _ _ (fun q => nd.1 (List.mem_map.mpr ⟨p, hp, q⟩)) e, r⟩
  · have k : ∀ b o, h.get? b = some o → b ∈ Tb → h'.get? b = some o := fun b o e hb => x _ _ (fun q => z3 (q ▸ hb)) e
    refine ⟨fun e he => ?_, S.tb.kt.ct (fun o e => k _ o e (by decide)) fun b o e ct => ?_⟩
    rotate_left
    · by_cases hca : b = a
      · subst hca
        obtain ⟨o', e1, e2⟩ := z1
        rw [e1] at e; cases e
        obtain ⟨vs, d, r⟩ := ct
        rcases r with r | ⟨q, t, r⟩
        · exact absurd r (nc _ _ e2 d).1
        · exact absurd r ((nc _ _ e2 d).2 _ _)
      · exact x _ _ hca e
    obtain ⟨ps, h1, h2, h3⟩ := S.tb.tt e he
    refine ⟨ps, k _ _ h1 (ts_tb e he), h2, fun s hs' p cv hl hcol hc => ?_⟩
    obtain ⟨c, rfl, hT, hr⟩ := h3 s hs' p cv hl hcol hc
    refine ⟨c, rfl, hT, ?_⟩
    obtain ⟨c', o, vs, t, e', g, d, r⟩ := hr
    cases e'
    by_cases hca : c = a
    · subst hca
      obtain ⟨o', e1, e2⟩ := z1
      rw [e1] at g; cases g
      exact absurd r ((nc _ _ e2 d).2 _ _)
    · exact ⟨c, o, vs, t, rfl, x _ _ hca g, d, r⟩
theorem lk_eq {l : List (Str × Value)} : lk (setL x v l) x = some v := by rw [lk_setL]; simp
theorem lk_ne {l : List (Str × Value)} {y : Str} (h : ¬ x = y) : lk (setL y v l) x = lk l x := by rw [lk_setL]; exact if_neg h
end

def retv : Flow → Value | .ret v => v | _ => .none
abbrev dFun (fd : FuncData) (o : Obj) : Prop := o.data = .func fd
section
variable {w : World} {A : Around} {E : Value → Shared → Prop} {h : Heap} {g : Array GenState} {d : Drawn} {t : Nat} {os : OsState} {Q : Value → Shared → Prop} {n u : Nat}
variable {name qual : Str} {params : Arguments} {body : List Stmt} {scope : Scope} {cl : List (Str × Addr)} {dV kV doc pm cdv ct : Value} {an : Option Addr} {f : Addr} {args : List Value} {binds : List (Str × Value)}
theorem ns_eq {h : Heap} {a : Addr} {m m' : Str → Option Value} (x : h.Ns a m) (e : ∀ n, m n = m' n) : h.Ns a m' := let ⟨o, es, ep, h1, h2, h3, h4⟩ := x; ⟨o, es, ep, h1, h2, h3, fun n => (h4 n).trans (e n)⟩
theorem tabs_keeps {h h' : Heap} (T : Tabs h) (k : ∀ b o, h.get? b = some o → h'.get? b = some o) : Tabs h' := T.stays ts_tb (fun b o e _ => k b o e) (ExtT.all k)
/-- a call of a def goes in (no cell of its own) -/
theorem enter {l : List (Str × Value)} (a : AOk A n u) (hn : Nat.blt n recursionLimit = true) (hf : At h f (dFun (fnX name qual params body scope cl dV kV doc pm an cdv ct))) (K : KIn w.params h) (T : Tabs h) (hcd : h.CodeRec cdv qual)
    (hb : BindsTo ⟨h, g, d, t, os⟩ (fnX name qual params body scope cl dV kV doc pm an cdv ct) ⟨args, []⟩ binds)
    (k : ∀ L h₁ t₁ A' E', AOk A' (n + 1) (u + 3) → St w h h₁ [(L, dNs (lk l))] → wpM w A' (execs body (envX qual scope L f cdv cl)) (fun fl s' => Q (retv fl) s') E' ⟨h₁, g, d, t₁, os⟩)
    (hbl : binds.reverse = l := by rfl) (hl : (binds.all fun x => decide (scope.names.lookup x.1 = some .local)) = true := by rfl) (hc : (scope.names.all fun x => x.2 != .cell) = true := by rfl)
    (hco : scope.isCoroutine = false := by rfl) (hgen : scope.isGenerator = false := by rfl) (hk : scope.kind = .function := by rfl) : wpM w A (call (.ref f) args []) Q E ⟨h, g, d, t, os⟩ := by
  obtain ⟨fo, hfo, hfd⟩ := hf
  subst hbl
  refine wpAny_call (codeAny_call_def (fd := fnX name qual params body scope cl dV kV doc pm an cdv ct) (body := body) (binds := binds) (Nat.lt_of_le_of_lt a.dp (by exact Nat.le_of_ble_eq_true hn)) hfo hfd (nolim K) hcd rfl hb
    (fun x hx => by have := List.all_eq_true.mp hc x hx; simpa using this) (locs hl) (fun h₁ hns hk₁ => ?_) hco hgen hk)
  have L0 : h.get? h.objs.size = none := fresh_get
  have LT : h.objs.size ∉ Tb := fun hm => tb_lt (P := w.params) T _ hm fresh_get
  refine wpAny_mono (k h.objs.size h₁ _ _ _ a.deeper ⟨ExtT.all hk₁, fun p hp => ?_, by simp, tabs_keeps T hk₁, K⟩) (fun fl s' q => ?_) fun _ _ e => e
  · cases hp with
    | head => exact ⟨At.of_ns hns, L0, LT, nc_ns⟩
    | tail _ hp => cases hp
  · cases fl <;> exact q
def bl (kindOf : Str → Option NameKind) : List (Str × Value) → List (Str × Value) → List (Str × Value)
  | [], l => l
  | (n, v) :: r, l => bl kindOf r (if kindOf n = some .local then setL n v l else l)
theorem bindL_bl (kindOf : Str → Option NameKind) : ∀ (b l : List (Str × Value)), bindL kindOf b (lk l) = lk (bl kindOf b l)
  | [], _ => rfl
  | (n, v) :: r, l => by
    unfold bindL bl
    by_cases hk : kindOf n = some .local
    · rw [if_pos hk, if_pos hk, ← lk_setL, bindL_bl kindOf r]
    · rw [if_neg hk, if_neg hk, bindL_bl kindOf r]
/-- a call of a def with cells of its own, closing over nothing -/
theorem enterC {cls : Nat → List (Str × Addr)} {led : Nat → Led} {l : List (Str × Value)} (a : AOk A n u) (hn : Nat.blt n recursionLimit = true) (hf : At h f (dFun (fnX name qual params body scope [] dV kV doc pm an cdv ct))) (K : KIn w.params h) (T : Tabs h) (hcd : h.CodeRec cdv qual)
    (hb : bindArgs (fnX name qual params body scope [] dV kV doc pm an cdv ct) ⟨args, []⟩ = pure binds)
    (ec : ∀ L, cellsFrom (L + 1) scope.names [] = cls L)
    (el : ∀ L, (cls L).map (fun p => (p.2, dCell (bindC (fun y => scope.names.lookup y) binds (fun _ => none) p.1))) = led L)
    (eb : bl (fun y => scope.names.lookup y) binds [] = l)
    (k : ∀ L h₁ t₁ A' E', AOk A' (n + 1) (u + 3) → St w h h₁ (led L ++ [(L, dNs (lk l))]) → wpM w A' (execs body (envX qual scope L f cdv (cls L))) (fun fl s' => Q (retv fl) s') E' ⟨h₁, g, d, t₁, os⟩)
    (hkind : ∀ L, (binds.all fun x => decide (scope.names.lookup x.1 = some .local ∨ (scope.names.lookup x.1 = some .cell ∧ ((cls L).lookup x.1).isSome = true))) = true)
    (hnd : ((cls 0).map (·.1)).Nodup := by decide)
    (hco : scope.isCoroutine = false := by rfl) (hgen : scope.isGenerator = false := by rfl) (hk : scope.kind = .function := by rfl) : wpM w A (call (.ref f) args []) Q E ⟨h, g, d, t, os⟩ := by
  obtain ⟨fo, hfo, hfd⟩ := hf
  have hnd : ∀ L, ((cls L).map (·.1)).Nodup := fun L => by
    rw [← ec, cellsFrom_names scope.names (L + 1) (0 + 1) [] [] rfl, ec]; exact hnd
  refine wpAny_call (codeAny_call_cells (fd := fnX name qual params body scope [] dV kV doc pm an cdv ct) (body := body) (binds := binds) (Nat.lt_of_le_of_lt a.dp (by exact Nat.le_of_ble_eq_true hn)) hfo hfd (nolim K) hcd rfl hb rfl
    (fun x hx => ?_) (fun s₁ X => ?_) hco hgen hk)
  · have := of_decide_eq_true (List.all_eq_true.mp (hkind h.objs.size) x hx)
    rw [← ec] at this
    exact this
  · have L0 : h.get? h.objs.size = none := fresh_get
    have LT : h.objs.size ∉ Tb := fun hm => tb_lt (P := w.params) T _ hm fresh_get
    obtain ⟨h₁, tk, rfl, hk₁⟩ := X.done
    have hkk : ∀ b o, h.get? b = some o → h₁.get? b = some o := hk₁
    have ecl : (callEnvC (fnX name qual params body scope [] dV kV doc pm an cdv ct) h.objs.size f) = envX qual scope h.objs.size f cdv (cls h.objs.size) := by
      unfold callEnvC newEnv envX
      simp only [ec]
    rw [ecl] at X ⊢
    have X1 := X.toInCall.ns
    have X2 := X.cell
    have X3 := X.apart
    have X4 := X.above
    refine wpAny_mono (k h.objs.size h₁ _ _ _ a.deeper ⟨ExtT.all hkk, fun p hp => ?_, ?_, tabs_keeps T hkk, K⟩) (fun fl s' q => ?_) fun _ _ e => e
    · rcases List.mem_append.mp hp with hp | hp
      · rw [← el] at hp
        obtain ⟨q, hq, rfl⟩ := List.mem_map.mp hp
        have lt := X4 q.1 q.2 hq
        have lt' : h.objs.size < q.2 := lt
        have hget : h.get? q.2 = none := Heap.get?_none_of_le (Nat.le_of_lt lt')
        refine ⟨X2 q.1 q.2 (lookup_of_mem_nodup (hnd _) hq), hget, fun hm => tb_lt (P := w.params) T _ hm hget, nc_cell⟩
      · cases hp with
        | head =>
          refine ⟨At.of_ns (ns_eq X1 fun nm => ?_), L0, LT, nc_ns⟩
          rw [← eb, ← bindL_bl]
          rfl
        | tail _ hp => cases hp
    · rw [List.map_append, List.nodup_append]
      refine ⟨?_, by simp, fun b hb c hc e => ?_⟩
      · rw [← el, List.map_map]
        exact List.pairwise_map.mpr (X3.imp fun hne => hne)
      · rw [← el, List.map_map] at hb
        obtain ⟨q, hq, rfl⟩ := List.mem_map.mp hb
        have lt : h.objs.size < q.2 := X4 q.1 q.2 hq
        have hc' : c = h.objs.size := by simpa using hc
        have e' : q.2 = c := e
        exact absurd (e'.trans hc') (Nat.ne_of_gt lt)
    · cases fl <;> exact q
theorem args_nil {f : Value} {Q : Args → Shared → Prop} {s : Shared} (q : Q ⟨[], []⟩ s) : wpM w A (evalArgs f true [] []) Q E s := by
  unfold evalArgs
  show wpAny (model Pr w) A (spliced [] >>= _) Q E s
  refine wpAny_bind (spliced_nil ?_)
  refine wpAny_bind (wpAny_pure ?_)
  exact wpAny_holding (wpAny_bind (wpAny_pure (wpAny_bind (wpAny_pure (wpAny_pure q)))))
theorem args_cons {f : Value} {pos : Pos} {e : Expr} {es : List Expr} {env : Env} {Q : Args → Shared → Prop} {s : Shared} (hp : wpM w A (spliced (backTo pos (starEach (e :: es) env))) (fun vs s' => Q ⟨vs, []⟩ s') E s)
    (he : starEach (e :: es) env = (false, eval e env) :: starEach es env := by rfl) :
    wpM w A (evalArgs f true (backTo pos (starEach (e :: es) env)) []) Q E s := by
  rw [he] at hp ⊢
  exact evalArgs_plain hp
/-- for x in a list that stands; J: what holds between the turns -/
theorem for_list {cs : Scope} {cn : Str} {cd : Value} {cl : List (Str × Addr)} {L f la : Addr} {x : Str} {px pos : Pos} {iter : Expr} {body : List Stmt} {B : Heap} {l : List (Str × Value)} {rest : Led} {xs : List Value} {Q : Flow → Shared → Prop}
    (J : Nat → Heap → List (Str × Value) → Led → Prop) (a : AOk A n u) (S : St w B h ((L, dNs (lk l)) :: rest)) (hla : At B la (dList xs)) (hT : la ∉ Tb) (j0 : J 0 B l rest)
    (hiter : ∀ Q' : Value → Shared → Prop, Q' (.ref la) ⟨h, g, d, t, os⟩ → wpM w A (eval iter (envX cn cs L f cd cl)) Q' E ⟨h, g, d, t, os⟩)
    (turn : ∀ i v B' l' rest' it h' t' E' (Post : Flow → Shared → Prop), xs[i]? = some v → J i B' l' rest' → Ext B B' → St w B' h' ((it, dLIt la (i + 1)) :: (L, dNs (lk (setL x v l'))) :: rest') →
      (∀ fl h'' t'' B'' l'' rest'', fl = .next ∨ fl = .cont → Ext B' B'' → St w B'' h'' ((it, dLIt la (i + 1)) :: (L, dNs (lk l'')) :: rest'') → J (i + 1) B'' l'' rest'' → Post fl ⟨h'', g, d, t'', os⟩) → (∀ s', Q .next s' → Post .brk s') → (∀ v s', Q (.ret v) s' → Post (.ret v) s') →
      wpM w A (execs body (envX cn cs L f cd cl)) Post E' ⟨h', g, d, t', os⟩)
    (done : ∀ B' l' rest' h' t', J xs.length B' l' rest' → Ext B B' → St w B' h' ((L, dNs (lk l')) :: rest') → Q .next ⟨h', g, d, t', os⟩)
    (hs : ∀ v, foldedSetIterable iter (envX cn cs L f cd cl) v = pure v := by intro _; rfl)
    (hk : cs.kind = .function := by rfl) (hx : (envX cn cs L f cd cl).kindOf x = some .local := by rfl) :
    wpM w A (exec (.For (.Name x px) iter body [] pos) (envX cn cs L f cd cl)) Q E ⟨h, g, d, t, os⟩ := by
  refine wpAny_For (hiter _ ?_) hs
  have hl : At h la (dList xs) := hla.ext S.keep hT
  refine wpAny_pyIter_list hl.list ?_
  have S1 : St w B (h.push { cls := .type "list_iterator", data := .fields #[.ref la, .int 0 0] }) ((h.objs.size, dLIt la 0) :: (L, dNs (lk l)) :: rest) := S.alloc (dd := dLIt la 0) ⟨rfl, rfl⟩ nc_lit rfl
  refine codeAny_forLoop (fun k s' => ∃ i h' t' B' l' rest', k + i = xs.length ∧ s' = ⟨h', g, d, t', os⟩ ∧ Ext B B' ∧ St w B' h' ((h.objs.size, dLIt la i) :: (L, dNs (lk l')) :: rest') ∧ J i B' l' rest') ?_ xs.length
    ⟨0, _, _, B, l, rest, rfl, rfl, ExtT.refl _ _, S1, j0⟩
  rintro k s' ⟨i, h', t', B', l', rest', hki, rfl, X, S', j⟩
  have hl' : At h' la (dList xs) := (hla.ext X hT).ext S'.keep hT
  cases hv : xs[i]? with
  | none =>
    have hi : i = xs.length := by have := List.getElem?_eq_none_iff.mp hv; omega
    subst hi
    refine wpAny_pyNext_list_end (items := xs.toArray) a.hd (S'.mem .head).lit hl'.list (by simpa using hv) fun h₂ x₂ => wpAny_execs_nil ?_
    exact done B' l' rest' h₂ t' j X (S'.lose x₂)
  | some v =>
    refine wpAny_pyNext_list_item (items := xs.toArray) (S'.mem .head).lit hl'.list (by simpa using hv) fun h₂ i₂ x₂ => ?_
    have S2 := S'.upd (dd' := dLIt la (i + 1)) .head nc_lit x₂ i₂
    refine wpAny_assign_Name (r_store S2 (.tail .head) (fun h₃ t₃ S3 => ?_) hk hx)
    have hlt : i < xs.length := (List.getElem?_eq_some_iff.mp hv).1
    refine turn i v B' l' rest' _ h₃ t₃ _ _ hv j X S3 (fun fl h₅ t₅ B₅ l₅ r₅ e X₅ S₅ j₅ => ?_) (fun _ z => z) (fun _ _ z => z)
    rcases e with rfl | rfl <;> exact ⟨k - 1, Nat.sub_lt (Nat.pos_of_ne_zero fun e => Nat.ne_of_lt hlt (by rw [← hki, e, Nat.zero_add])) Nat.one_pos, i + 1, h₅, t₅, B₅, l₅, r₅, by omega, rfl, X.trans X₅, S₅, j₅⟩
theorem ite_dec {p : Prop} [Decidable p] {X Y : Prop} (x : p → X) (y : ¬ p → Y) : if decide p = true then X else Y := by
  by_cases h : p
  · rw [if_pos (decide_eq_true h)]; exact x h
  · rw [if_neg (by rw [decide_eq_false h]; exact Bool.false_ne_true)]; exact y h
theorem ite_bool {b : Bool} {X Y : Prop} (x : b = true → X) (y : b = false → Y) : if b = true then X else Y := by
  cases b
  · exact y rfl
  · exact x rfl
theorem ite_nt {X Y : Prop} {i : Decidable ((!true) = true)} (y : Y) : @ite Prop ((!true) = true) i X Y := by rw [if_neg (by simp)]; exact y
theorem ite_nf {X Y : Prop} {i : Decidable ((!false) = true)} (x : X) : @ite Prop ((!false) = true) i X Y := by rw [if_pos (by simp)]; exact x
theorem ite_t {X Y : Prop} {i : Decidable (true = true)} (x : X) : @ite Prop (true = true) i X Y := by rw [if_pos rfl]; exact x
theorem ite_f {X Y : Prop} {i : Decidable (false = true)} (y : Y) : @ite Prop (false = true) i X Y := by rw [if_neg (by simp)]; exact y
theorem item_tup {value slice : Expr} {T : Addr} {l : List Value} {k : Int} {u : Tok} {j : Nat} {x : Value} {Q : Value → Shared → Prop} (ht : At h T (dTup l))
    (hlo : -(2 ^ 63) ≤ k) (hhi : k < 2 ^ 63) (hj : seqIndex? k l.length = some j) (hx : l[j]? = some x) (q : Q x ⟨h, g, d, t, os⟩)
    (hs : subscripted slice false (.ref T) (.int k u) = operate [.ref T, .int k u] (getItem (.ref T) (.int k u)) := by with_unfolding_all rfl) :
    wpM w A (subscriptTail value slice (.ref T) (.int k u)) Q E ⟨h, g, d, t, os⟩ := item_tupleT ht.tup hlo hhi hj hx q hs
theorem item_lst {value slice : Expr} {T : Addr} {l : List Value} {k : Int} {u : Tok} {x : Value} {Q : Value → Shared → Prop} (ht : At h T (dList l))
    (hlo : 0 ≤ k) (hhi : k < 2 ^ 63) (hx : l[k.toNat]? = some x) (q : Q x ⟨h, g, d, t, os⟩)
    (hs : subscripted slice false (.ref T) (.int k u) = operate [.ref T, .int k u] (getItem (.ref T) (.int k u)) := by with_unfolding_all rfl) :
    wpM w A (subscriptTail value slice (.ref T) (.int k u)) Q E ⟨h, g, d, t, os⟩ := 
  have hL := ht.list
  tail_any (s := ⟨h, g, d, t, os⟩) hL.typeIs slot_list_getitem.lookup (wpAny_getItem_list hL hlo hhi (by simpa using hx) q) hs
section
variable {i j : Int} {u v : Tok}
theorem o_add (q : ∀ t', Q (.int (i + j) t') ⟨h, g, d, t + 1, os⟩) : wpM w A (binaryOp .Add (.int i u) (.int j v)) Q E ⟨h, g, d, t, os⟩ := P.add_int (q _)
theorem o_sub (q : ∀ t', Q (.int (i - j) t') ⟨h, g, d, t + 1, os⟩) : wpM w A (binaryOp .Sub (.int i u) (.int j v)) Q E ⟨h, g, d, t, os⟩ := P.sub_int (q _)
theorem o_mul (q : ∀ t', Q (.int (i * j) t') ⟨h, g, d, t + 1, os⟩) (hm : IntMulOk i j := by mul_fits) : wpM w A (binaryOp .Mult (.int i u) (.int j v)) Q E ⟨h, g, d, t, os⟩ := P.mul_int (q _) hm
theorem o_mod (hj : j ≠ 0) (q : ∀ t', Q (.int (i.fmod j) t') ⟨h, g, d, t + 1, os⟩) : wpM w A (binaryOp .Mod (.int i u) (.int j v)) Q E ⟨h, g, d, t, os⟩ := mod_int' hj (q _)
theorem o_div (hj : j ≠ 0) (hp : Builtin.divisionGoesByPylong i j = false) (q : ∀ t', Q (.int (i.fdiv j) t') ⟨h, g, d, t + 1, os⟩) : wpM w A (binaryOp .FloorDiv (.int i u) (.int j v)) Q E ⟨h, g, d, t, os⟩ := floordiv_int hj (q _) (.inl hp)
theorem o_neg (q : ∀ t', Q (.int (-i) t') ⟨h, g, d, t + 1, os⟩) : wpM w A (unaryOp .USub (.int i u)) Q E ⟨h, g, d, t, os⟩ := P.neg_int (q _)
end
end
local macro_rules | `(tactic| wtm_at "mine m_lm") => `(tactic| first
  | with_reducible exact LMem.head
  | ((with_reducible refine' LMem.tail ?h); (case h => wtm_at "mine m_lm"))
  | ((with_reducible refine' LMem.app ?h _); (case h => wtm_at "mine m_lm")))
theorem sl_app {α : Type} {xs ys : List α} (zs : List α) (h : xs.Sublist ys) : xs.Sublist (zs ++ ys) := h.trans (List.sublist_append_right zs ys)
local macro_rules | `(tactic| wtm_at "mine m_sl") => `(tactic| first
  | exact List.nil_sublist _
  | exact List.Sublist.refl _
  | exact List.sublist_append_left _ _
  | with_reducible exact List.sublist_append_left _ _
  | ((refine List.Sublist.cons₂ _ ?_); wtm_at "mine m_sl")
  | ((with_reducible refine sl_app _ ?_); wtm_at "mine m_sl")
  | ((refine List.Sublist.cons _ ?_); wtm_at "mine m_sl"))
local macro_rules | `(tactic| wtm_at "mine m_lu") => `(tactic| first
  | with_reducible exact LUp.head
  | ((with_reducible refine' LUp.tail ?zzh); (case zzh => wtm_at "mine m_lu"))
  | ((with_reducible refine' LUp.app ?zzh _); (case zzh => wtm_at "mine m_lu")))
local macro_rules | `(tactic| wtm_at "mine m_tb") => `(tactic| first | assumption | decide)
set_option hygiene false in
local macro_rules | `(tactic| wtm_at "mine kn") => `(tactic| first
  | ((with_reducible refine' St.mem S ?_); wtm_at "mine m_lm")
  | ((with_reducible refine' St.old S ?zzm ?zzq); (case zzm => assumption); (case zzq => wtm_at "mine m_tb")))
local macro_rules | `(tactic| wtm_at "mine w_lk") => `(tactic| first
  | with_reducible assumption
  | with_reducible exact lk_eq
  | ((with_reducible refine Eq.trans (lk_ne ?zzne) ?_); (case zzne => decide); wtm_at "mine w_lk")
  | exact rfl)
set_option hygiene false in
local macro_rules | `(tactic| wtm_at "mine w_name") => `(tactic| first
  | ((with_reducible refine' r_local S ?zzm ?zzv ?_ ?zzk ?zzx ?zzb); (case zzk => exact rfl); (case zzx => exact rfl); (case zzb => decide); (case zzm => wtm_at "mine m_lm"); (case zzv => wtm_at "mine w_lk"))
  | ((with_reducible refine' r_free ?zzc ?zzm ?_ ?zzk ?zzx ?zzb ?zzn); (case zzk => exact rfl); (case zzx => exact rfl); (case zzb => decide); (case zzn => decide); (case zzc => exact rfl); (case zzm => wtm_at "mine kn"))
  | ((with_reducible refine' r_cell ?zzc ?zzm ?_ ?zzk ?zzx ?zzb); (case zzk => exact rfl); (case zzx => exact rfl); (case zzb => decide); (case zzc => exact rfl); (case zzm => wtm_at "mine kn"))
  | ((with_reducible refine' r_glob S ?zzv ?_ ?zzk ?zzx ?zzb); (case zzv => wtm_at "mine m_gl"); (case zzk => exact rfl); (case zzx => exact rfl); (case zzb => decide))
  | ((with_reducible refine' r_built S ?zzn ?zzv ?_ ?zzk ?zzx ?zzb); (case zzn => wtm_at "mine m_gn"); (case zzv => wtm_at "mine m_bi"); (case zzk => exact rfl); (case zzx => exact rfl); (case zzb => decide)))
set_option hygiene false in
local macro_rules | `(tactic| wtm_at "mine w_store") => `(tactic| first
  | ((with_reducible refine' r_store S ?zzu ?_ ?zzk ?zzx); (case zzk => exact rfl); (case zzx => exact rfl); (case zzu => wtm_at "mine m_lu"); clear S; intro h' t' S)
  | ((with_reducible refine' r_storeC S ?zzc ?zzu ?_ ?zzk ?zzx); (case zzk => exact rfl); (case zzx => exact rfl); (case zzc => exact rfl); (case zzu => wtm_at "mine m_lu"); clear S; intro h' t' S))
local macro_rules | `(tactic| wtm_at "mine w_ite") => `(tactic| first
  | with_reducible refine ite_t ?_ | with_reducible refine ite_f ?_ | with_reducible refine ite_nt ?_ | with_reducible refine ite_nf ?_
  | (with_reducible refine ite_dec ?_ ?_ <;> intro hc) | (with_reducible refine ite_bool ?_ ?_ <;> intro hc))
local macro_rules | `(tactic| wtm_at "mine w_op") => `(tactic| first
  | ((with_reducible refine' o_add ?_); intro t') | ((with_reducible refine' o_sub ?_); intro t')
  | ((with_reducible refine' o_mul ?_ ?zzhm); (case zzhm => mul_fits); intro t') 
  | ((with_reducible refine' o_mod ?zzhj ?_); (case zzhj => decide); intro t')
  | ((with_reducible refine' o_div ?zzhj ?zzhp ?_); (case zzhj => decide); (case zzhp => exact PyProof.noPylong_of_log2 (by decide +kernel)); intro t')
  | ((with_reducible refine' o_neg ?_); intro t')
  | with_reducible refine' P.lt_int ?_ | with_reducible refine' P.le_int ?_ | with_reducible refine' P.gt_int ?_ | with_reducible refine' P.ge_int ?_ | with_reducible refine' P.eq_int ?_ | with_reducible refine' P.ne_int ?_ | with_reducible refine' wpAny_truthy_bool ?_)
set_option hygiene false in
local macro_rules | `(tactic| wtm_at "mine w_item") => `(tactic| first
  | ((with_reducible refine' item_tup ?zza ?zzb ?zzc ?zze ?zzf ?_); (case zza => wtm_at "mine kn"); (case zzb => decide); (case zzc => decide); (case zze => exact rfl); (case zzf => exact rfl))
  | ((with_reducible refine' item_lst ?zza ?zzb ?zzc ?zze ?_); (case zza => wtm_at "mine kn"); (case zzb => decide); (case zzc => decide); (case zze => exact rfl)))
local macro_rules | `(tactic| wtm_at "mine w1") => `(tactic| first
  | wtm_at "mine w_name"
  | (with_reducible refine r_int ?_; intro t')
  | wtm_at "mine w_op"
  | with_reducible refine wpAny_execs_cons ?_
  | with_reducible refine wpAny_Return_some ?_
  | ((with_reducible refine' wpAny_Assign_Name ?_ ?zzhs); (case zzhs => exact rfl))
  | wtm_at "mine w_store"
  | with_reducible refine wpAny_BinOp ?_
  | with_reducible refine Subscript_ ?_
  | wtm_at "mine w_item"
  | with_reducible refine wpAny_If ?_
  | with_reducible refine wpAny_isTrue_Compare1 ?_
  | with_reducible refine wpAny_isTrue_BoolOp ?_
  | with_reducible refine wpAny_isTrue_Not ?_
  | with_reducible refine wpAny_allTrue_And_cons ?_
  | with_reducible refine wpAny_allTrue_Or_cons ?_
  | with_reducible refine wpAny_allTrue_And_nil ?_
  | with_reducible refine wpAny_allTrue_Or_nil ?_
  | with_reducible refine wpAny_Compare1 ?_
  | with_reducible refine wpAny_UnaryOp ?_
  | with_reducible refine wpAny_Constant_none ?_
  | with_reducible refine wpAny_Constant_bool ?_
  | with_reducible refine wpAny_execs_nil ?_
  | wtm_at "mine w_ite")

theorem fn_at {h : Heap} {a : Addr} {o : Obj} {n q : Str} {ag : Arguments} {bd : List Stmt} {sc : Scope} {cl : List (Str × Addr)} {dV kV doc pm cdv ct : Value} {an : Option Addr} (e : h.get? a = some o) (hd : o.data = .func (fnX n q ag bd sc cl dV kV doc pm an cdv ct)) : At h a (dFun (fnX n q ag bd sc cl dV kV doc pm an cdv ct)) := ⟨o, e, hd⟩
noncomputable def bd21 : { x // x = bodyOf 1 } := ⟨_, rfl⟩
noncomputable def ag21 : { x // x = defArgs (topStmt 1) } := ⟨_, rfl⟩
noncomputable def sc21 : { x // x = defScope (topStmt 1) } := ⟨_, rfl⟩
theorem fa21 {P : Params} {h : Heap} (K : KIn P h) : ∃ pm, At h 21 (dFun (fnX "cmp_to_key" "cmp_to_key" ag21.1 bd21.1 sc21.1 [] .none .none .none pm none (.ref 20) .none)) :=
  ⟨_, fn_at (pm := (oFun (some (zo21 P))).pyModule) (K 21 _ rfl (by decide)) (by kernel_rfl)⟩
theorem ca21 {P : Params} {h : Heap} (K : KIn P h) : h.CodeRec (.ref 20) "cmp_to_key" := code_at (K 20 _ rfl (by decide)) rfl (by kernel_rfl)
noncomputable def bd30 : { x // x = bodyOf 3 } := ⟨_, rfl⟩
noncomputable def ag30 : { x // x = defArgs (topStmt 3) } := ⟨_, rfl⟩
noncomputable def sc30 : { x // x = defScope (topStmt 3) } := ⟨_, rfl⟩
theorem fa30 {P : Params} {h : Heap} (K : KIn P h) : ∃ pm, At h 30 (dFun (fnX "reduce" "reduce" ag30.1 bd30.1 sc30.1 [] (.ref 23) .none .none pm none (.ref 29) .none)) :=
  ⟨_, fn_at (pm := (oFun (some (zo30 P))).pyModule) (K 30 _ rfl (by decide)) (by kernel_rfl)⟩
theorem ca30 {P : Params} {h : Heap} (K : KIn P h) : h.CodeRec (.ref 29) "reduce" := code_at (K 29 _ rfl (by decide)) rfl (by kernel_rfl)
noncomputable def bd37 : { x // x = bodyOf 5 } := ⟨_, rfl⟩
noncomputable def ag37 : { x // x = defArgs (topStmt 5) } := ⟨_, rfl⟩
noncomputable def sc37 : { x // x = defScope (topStmt 5) } := ⟨_, rfl⟩
theorem fa37 {P : Params} {h : Heap} (K : KIn P h) : ∃ pm, At h 37 (dFun (fnX "search_reverse" "search_reverse" ag37.1 bd37.1 sc37.1 [] .none .none .none pm none (.ref 36) .none)) :=
  ⟨_, fn_at (pm := (oFun (some (zo37 P))).pyModule) (K 37 _ rfl (by decide)) (by kernel_rfl)⟩
theorem ca37 {P : Params} {h : Heap} (K : KIn P h) : h.CodeRec (.ref 36) "search_reverse" := code_at (K 36 _ rfl (by decide)) rfl (by kernel_rfl)
noncomputable def bd44 : { x // x = bodyOf 7 } := ⟨_, rfl⟩
noncomputable def ag44 : { x // x = defArgs (topStmt 7) } := ⟨_, rfl⟩
noncomputable def sc44 : { x // x = defScope (topStmt 7) } := ⟨_, rfl⟩
theorem fa44 {P : Params} {h : Heap} (K : KIn P h) : ∃ pm, At h 44 (dFun (fnX "_law_visit" "_law_visit" ag44.1 bd44.1 sc44.1 [] .none .none .none pm none (.ref 43) .none)) :=
  ⟨_, fn_at (pm := (oFun (some (zo44 P))).pyModule) (K 44 _ rfl (by decide)) (by kernel_rfl)⟩
theorem ca44 {P : Params} {h : Heap} (K : KIn P h) : h.CodeRec (.ref 43) "_law_visit" := code_at (K 43 _ rfl (by decide)) rfl (by kernel_rfl)
noncomputable def bd51 : { x // x = bodyOf 8 } := ⟨_, rfl⟩
noncomputable def ag51 : { x // x = defArgs (topStmt 8) } := ⟨_, rfl⟩
noncomputable def sc51 : { x // x = defScope (topStmt 8) } := ⟨_, rfl⟩
theorem fa51 {P : Params} {h : Heap} (K : KIn P h) : ∃ pm, At h 51 (dFun (fnX "_law_visits" "_law_visits" ag51.1 bd51.1 sc51.1 [] .none .none .none pm none (.ref 50) .none)) :=
  ⟨_, fn_at (pm := (oFun (some (zo51 P))).pyModule) (K 51 _ rfl (by decide)) (by kernel_rfl)⟩
theorem ca51 {P : Params} {h : Heap} (K : KIn P h) : h.CodeRec (.ref 50) "_law_visits" := code_at (K 50 _ rfl (by decide)) rfl (by kernel_rfl)
noncomputable def bd58 : { x // x = bodyOf 9 } := ⟨_, rfl⟩
noncomputable def ag58 : { x // x = defArgs (topStmt 9) } := ⟨_, rfl⟩
noncomputable def sc58 : { x // x = defScope (topStmt 9) } := ⟨_, rfl⟩
theorem fa58 {P : Params} {h : Heap} (K : KIn P h) : ∃ pm, At h 58 (dFun (fnX "_law_hours" "_law_hours" ag58.1 bd58.1 sc58.1 [] .none .none .none pm none (.ref 57) .none)) :=
  ⟨_, fn_at (pm := (oFun (some (zo58 P))).pyModule) (K 58 _ rfl (by decide)) (by kernel_rfl)⟩
theorem ca58 {P : Params} {h : Heap} (K : KIn P h) : h.CodeRec (.ref 57) "_law_hours" := code_at (K 57 _ rfl (by decide)) rfl (by kernel_rfl)
noncomputable def bd65 : { x // x = bodyOf 10 } := ⟨_, rfl⟩
noncomputable def ag65 : { x // x = defArgs (topStmt 10) } := ⟨_, rfl⟩
noncomputable def sc65 : { x // x = defScope (topStmt 10) } := ⟨_, rfl⟩
theorem fa65 {P : Params} {h : Heap} (K : KIn P h) : ∃ pm, At h 65 (dFun (fnX "_law_program" "_law_program" ag65.1 bd65.1 sc65.1 [] .none .none .none pm none (.ref 64) .none)) :=
  ⟨_, fn_at (pm := (oFun (some (zo65 P))).pyModule) (K 65 _ rfl (by decide)) (by kernel_rfl)⟩
theorem ca65 {P : Params} {h : Heap} (K : KIn P h) : h.CodeRec (.ref 64) "_law_program" := code_at (K 64 _ rfl (by decide)) rfl (by kernel_rfl)
noncomputable def bd72 : { x // x = bodyOf 11 } := ⟨_, rfl⟩
noncomputable def ag72 : { x // x = defArgs (topStmt 11) } := ⟨_, rfl⟩
noncomputable def sc72 : { x // x = defScope (topStmt 11) } := ⟨_, rfl⟩
theorem fa72 {P : Params} {h : Heap} (K : KIn P h) : ∃ pm, At h 72 (dFun (fnX "_law_lately" "_law_lately" ag72.1 bd72.1 sc72.1 [] .none .none .none pm none (.ref 71) .none)) :=
  ⟨_, fn_at (pm := (oFun (some (zo72 P))).pyModule) (K 72 _ rfl (by decide)) (by kernel_rfl)⟩
theorem ca72 {P : Params} {h : Heap} (K : KIn P h) : h.CodeRec (.ref 71) "_law_lately" := code_at (K 71 _ rfl (by decide)) rfl (by kernel_rfl)
noncomputable def bd77 : { x // x = bodyOf 12 } := ⟨_, rfl⟩
noncomputable def ag77 : { x // x = defArgs (topStmt 12) } := ⟨_, rfl⟩
noncomputable def sc77 : { x // x = defScope (topStmt 12) } := ⟨_, rfl⟩
theorem fa77 {P : Params} {h : Heap} (K : KIn P h) : ∃ pm, At h 77 (dFun (fnX "_law_to_front" "_law_to_front" ag77.1 bd77.1 sc77.1 [] .none .none .none pm none (.ref 76) .none)) :=
  ⟨_, fn_at (pm := (oFun (some (zo77 P))).pyModule) (K 77 _ rfl (by decide)) (by kernel_rfl)⟩
theorem ca77 {P : Params} {h : Heap} (K : KIn P h) : h.CodeRec (.ref 76) "_law_to_front" := code_at (K 76 _ rfl (by decide)) rfl (by kernel_rfl)
noncomputable def bd84 : { x // x = bodyOf 13 } := ⟨_, rfl⟩
noncomputable def ag84 : { x // x = defArgs (topStmt 13) } := ⟨_, rfl⟩
noncomputable def sc84 : { x // x = defScope (topStmt 13) } := ⟨_, rfl⟩
theorem fa84 {P : Params} {h : Heap} (K : KIn P h) : ∃ pm, At h 84 (dFun (fnX "_law_five" "_law_five" ag84.1 bd84.1 sc84.1 [] .none .none .none pm none (.ref 83) .none)) :=
  ⟨_, fn_at (pm := (oFun (some (zo84 P))).pyModule) (K 84 _ rfl (by decide)) (by kernel_rfl)⟩
theorem ca84 {P : Params} {h : Heap} (K : KIn P h) : h.CodeRec (.ref 83) "_law_five" := code_at (K 83 _ rfl (by decide)) rfl (by kernel_rfl)
noncomputable def bd91 : { x // x = bodyOf 14 } := ⟨_, rfl⟩
noncomputable def ag91 : { x // x = defArgs (topStmt 14) } := ⟨_, rfl⟩
noncomputable def sc91 : { x // x = defScope (topStmt 14) } := ⟨_, rfl⟩
theorem fa91 {P : Params} {h : Heap} (K : KIn P h) : ∃ pm, At h 91 (dFun (fnX "_law_fives" "_law_fives" ag91.1 bd91.1 sc91.1 [] .none .none .none pm none (.ref 90) .none)) :=
  ⟨_, fn_at (pm := (oFun (some (zo91 P))).pyModule) (K 91 _ rfl (by decide)) (by kernel_rfl)⟩
theorem ca91 {P : Params} {h : Heap} (K : KIn P h) : h.CodeRec (.ref 90) "_law_fives" := code_at (K 90 _ rfl (by decide)) rfl (by kernel_rfl)
noncomputable def bd96 : { x // x = bodyOf 15 } := ⟨_, rfl⟩
noncomputable def ag96 : { x // x = defArgs (topStmt 15) } := ⟨_, rfl⟩
noncomputable def sc96 : { x // x = defScope (topStmt 15) } := ⟨_, rfl⟩
theorem fa96 {P : Params} {h : Heap} (K : KIn P h) : ∃ pm, At h 96 (dFun (fnX "law" "law" ag96.1 bd96.1 sc96.1 [] .none .none .none pm none (.ref 95) .none)) :=
  ⟨_, fn_at (pm := (oFun (some (zo96 P))).pyModule) (K 96 _ rfl (by decide)) (by kernel_rfl)⟩
theorem ca96 {P : Params} {h : Heap} (K : KIn P h) : h.CodeRec (.ref 95) "law" := code_at (K 95 _ rfl (by decide)) rfl (by kernel_rfl)

theorem St.keys_code {w : World} {B h : Heap} {own : Led} {c : Addr} {q : Str} (S : St w B h own) (r : h.CodeRec (.ref c) q) : c ∉ own.map (·.1) := fun hm => by
  obtain ⟨p, hp, rfl⟩ := List.mem_map.mp hm
  obtain ⟨⟨o, e, hd⟩, _, _, nc⟩ := S.nw p hp
  obtain ⟨c', o', vs, t, e1, e2, e3, e4⟩ := r
  cases e1
  rw [e] at e2; cases e2
  exact (nc _ _ hd e3).2 _ _ e4
theorem St.learn {w : World} {B h : Heap} {own : Led} {c : Addr} {q : Str} (S : St w B h own) (r : h.CodeRec (.ref c) q) (hc : c ∉ Tb) : ∃ B', Ext B B' ∧ B'.CodeRec (.ref c) q ∧ St w B' h own := by
  obtain ⟨B', h1, _, h3, h4⟩ := St.freeze (new := []) S
  have hk := S.keys_code r
  obtain ⟨c', o', vs, t, e1, e2, e3, e4⟩ := r
  cases e1
  exact ⟨B', h1, ⟨c, o', vs, t, rfl, h4 _ _ e2 hk hc, e3, e4⟩, h3⟩
theorem St.grow {w : World} {B h h' : Heap} {own : Led} {P : Addr} {sp : Spec} {ps : Array Value} {pos : Pos} {qual : Str} {c : Addr} (S : St w B h own) (hTS : (P, sp) ∈ TS) (e : h.get? P = some (tabObj ps)) (x : Heap.ExtBut P h h')
    (e' : h'.get? P = some (tabObj (ps ++ #[rawInt pos.line, rawInt pos.col, .ref c]))) (hc : c ∉ Tb) (hr : h'.CodeRec (.ref c) qual) (hu : (sp.all fun e => !(e.1.1 == pos.line && e.1.2 == pos.col) || e.2 == qual) = true) : St w B h' own := by
  have hP : P ∈ Tb := ts_tb _ hTS
  have X : Ext h h' := fun b o e q => x b o (fun z => q (z ▸ hP)) e
  have n16 : (16 : Nat) ≠ P := fun z => (by decide : ∀ e ∈ TS, e.1 ≠ 16) _ hTS z.symm
  have ut : ∀ e₁ ∈ TS, ∀ e₂ ∈ TS, e₁.1 = e₂.1 → e₁ = e₂ := by decide
  refine ⟨S.keep.trans X, fun p hp => ⟨(S.nw p hp).1.ext X (S.nw p hp).2.2.1, (S.nw p hp).2⟩, S.nd, ⟨fun s hs => ?_, S.tb.kt.to (fun o e => x _ _ n16 e) X⟩, S.kin⟩
  by_cases hsP : s.1 = P
  · have := ut s hs _ hTS hsP
    subst this
    exact (S.tb.tt _ hs).grow e X e' hc hr hu
  · exact (S.tb.tt s hs).stays X fun o ho => x _ _ hsP ho
theorem blt_at {P : Params} {h : Heap} (K : KIn P h) {Pl : Addr} (hn : Pl ≠ 4) : h.BuiltinsAt (gl P) Pl := by
  obtain ⟨o, e, h1, h2, h3⟩ := blt K
  exact ⟨4, o, rfl, by decide, by decide, hn.symm, e, h1, h2, h3⟩
noncomputable abbrev pmOf (w : World) : Value := (gl w.params "__name__").getD .none
section
variable {w : World} {A : Around} {E : Value → Shared → Prop} {B h : Heap} {g : Array GenState} {d : Drawn} {t : Nat} {os : OsState} {own : Led} {Q : Value → Shared → Prop}
variable {cn : Str} {cs : Scope} {L f c P : Addr} {cl clos : List (Str × Addr)} {sp : Spec} {name qual : Str} {params : Arguments} {body : List Stmt} {be : Expr} {scope : Scope} {pos : Pos} {fl : Nat}
theorem r_def (S : St w B h own) (hTS : (P, sp) ∈ TS) (C : CodeHd h c P) (hcl : closureFor scope (envX cn cs L f (.ref c) cl) = pure clos) (hsp : sp.contains ((pos.line, pos.col), qual) = true)
    (hu : (sp.all fun e => !(e.1.1 == pos.line && e.1.2 == pos.col) || e.2 == qual) = true) (hP : P ≠ 4 ∧ mainGlobals ≠ P)
    (q : ∀ fa c' ctv doc B' h' t', Ext B B' → c' ∉ Tb → B'.CodeRec (.ref c') qual → St w B' h' ((fa, dObj (fnMade name qual params body scope clos doc (pmOf w) c' ctv)) :: own) → Q (.ref fa) ⟨h', g, d, t', os⟩) :
    wpM w A (makeFunction name qual params (.stmts body) scope (envX cn cs L f (.ref c) cl) [] [] [] pos fl) Q E ⟨h, g, d, t, os⟩ := by
  obtain ⟨ps, e, ht, _⟩ := id (S.tb.tt _ hTS)
  cases hf : codeAmong pos ps.toList with
  | none =>
    refine makeFunction_K hcl rfl (gl_ns S.kinh) rfl C e ht hf hP.2 (blt_at S.kinh hP.1) fun c' ctv doc h' tk hx hge hlt hrec htb => ?_
    have hc : c' ∉ Tb := fun hm => tb_lt (P := w.params) S.tb _ hm (Heap.get?_none_of_le hge)
    have S1 := S.grow hTS e hx htb hc hrec hu
    obtain ⟨B', X, r, S2⟩ := S1.learn hrec hc
    exact q _ c' ctv doc B' _ tk X hc r (S2.alloc (dd := dObj _) rfl nc_fun rfl)
  | some cv =>
    obtain ⟨c', rfl, hc, hrec⟩ := tabHit (S.tb.tt _ hTS) e hsp hf
    refine makeFunction_hit hcl rfl (gl_ns S.kinh) rfl C e ht hf (blt_at S.kinh hP.1) fun ctv doc h' tk hk _ => ?_
    have S1 : St w B h' own := ⟨S.keep.trans (ExtT.all hk), fun p hp => ⟨(S.nw p hp).1.keeps hk, (S.nw p hp).2⟩, S.nd, tabs_keeps S.tb hk, S.kin⟩
    obtain ⟨B', X, r, S2⟩ := S1.learn (hrec.keeps hk) hc
    exact q _ c' ctv doc B' _ tk X hc r (S2.alloc (dd := dObj _) rfl nc_fun rfl)
theorem r_lam (S : St w B h own) (hTS : (P, sp) ∈ TS) (C : CodeHd h c P) (hcl : closureFor scope (envX cn cs L f (.ref c) cl) = pure clos) (hsp : sp.contains ((pos.line, pos.col), qual) = true)
    (hu : (sp.all fun e => !(e.1.1 == pos.line && e.1.2 == pos.col) || e.2 == qual) = true) (hP : P ≠ 4 ∧ mainGlobals ≠ P)
    (q : ∀ fa c' ctv B' h' t', Ext B B' → c' ∉ Tb → B'.CodeRec (.ref c') qual → St w B' h' ((fa, dObj (kla_obj name qual params be scope clos (pmOf w) c' ctv)) :: own) → Q (.ref fa) ⟨h', g, d, t', os⟩) :
    wpM w A (makeFunction name qual params (.expr be) scope (envX cn cs L f (.ref c) cl) [] [] [] pos fl) Q E ⟨h, g, d, t, os⟩ := by
  obtain ⟨ps, e, ht, _⟩ := id (S.tb.tt _ hTS)
  cases hf : codeAmong pos ps.toList with
  | none =>
    refine kla_makeFunction hcl rfl (gl_ns S.kinh) rfl C e ht hf hP.2 (blt_at S.kinh hP.1) fun c' ctv h' tk hx hge hlt hrec htb => ?_
    have hc : c' ∉ Tb := fun hm => tb_lt (P := w.params) S.tb _ hm (Heap.get?_none_of_le hge)
    have S1 := S.grow hTS e hx htb hc hrec hu
    obtain ⟨B', X, r, S2⟩ := S1.learn hrec hc
    exact q _ c' ctv B' _ tk X hc r (S2.alloc (dd := dObj _) rfl nc_fun rfl)
  | some cv =>
    obtain ⟨c', rfl, hc, hrec⟩ := tabHit (S.tb.tt _ hTS) e hsp hf
    refine kla_makeFunctionHit hcl rfl (gl_ns S.kinh) rfl C e ht hf (blt_at S.kinh hP.1) fun ctv h' tk hk _ => ?_
    have S1 : St w B h' own := ⟨S.keep.trans (ExtT.all hk), fun p hp => ⟨(S.nw p hp).1.keeps hk, (S.nw p hp).2⟩, S.nd, tabs_keeps S.tb hk, S.kin⟩
    obtain ⟨B', X, r, S2⟩ := S1.learn (hrec.keeps hk) hc
    exact q _ c' ctv B' _ tk X hc r (S2.alloc (dd := dObj _) rfl nc_fun rfl)
end
theorem cd43 {P : Params} {h : Heap} (K : KIn P h) : CodeHd h 43 39 := ⟨_, _, _, _, _, _, _, _, _, K 43 _ rfl (by decide), by kernel_rfl, rfl, by kernel_rfl, by kernel_rfl, rfl, rfl, rfl, rfl, by decide⟩
theorem cd64 {P : Params} {h : Heap} (K : KIn P h) : CodeHd h 64 60 := ⟨_, _, _, _, _, _, _, _, _, K 64 _ rfl (by decide), by kernel_rfl, rfl, by kernel_rfl, by kernel_rfl, rfl, rfl, rfl, rfl, by decide⟩
theorem cd71 {P : Params} {h : Heap} (K : KIn P h) : CodeHd h 71 67 := ⟨_, _, _, _, _, _, _, _, _, K 71 _ rfl (by decide), by kernel_rfl, rfl, by kernel_rfl, by kernel_rfl, rfl, rfl, rfl, rfl, by decide⟩

section
open Builtin Builtin.ObjectAttr
theorem slot_fset : Slot "function" "__setattr__" "object.__setattr__" :=
  .of (owner := "object") (n := "__setattr__") (by rw [typeLookup_type, builtinLookup_eq_fast]; kernel_rfl) (by decide +kernel) (by decide +kernel) (by decide +kernel)
    (by first | exact .inl (by decide +kernel) | exact .inr (by decide +kernel)) (by rw [isSubtype_type]; kernel_rfl)
theorem slot_fget : Slot "function" "__getattribute__" "object.__getattribute__" :=
  .of (owner := "object") (n := "__getattribute__") (by rw [typeLookup_type, builtinLookup_eq_fast]; kernel_rfl) (by decide +kernel) (by decide +kernel) (by decide +kernel)
    (by first | exact .inl (by decide +kernel) | exact .inr (by decide +kernel)) (by rw [isSubtype_type]; kernel_rfl)
theorem entry_oset : entryFor table "object.__setattr__" = some Builtin.«object.__setattr__» := entryFor_of_tree (by kernel_rfl)
theorem entry_oget : entryFor table "object.__getattribute__" = some Builtin.«object.__getattribute__» := entryFor_of_tree (by kernel_rfl)
theorem args_oset (a b c : Value) : argsOk "object.__setattr__" ⟨[a, b, c], []⟩ := by unfold argsOk; kernel_rfl
theorem args_oget (a b : Value) : argsOk "object.__getattribute__" ⟨[a, b], []⟩ := by unfold argsOk; kernel_rfl
/-- a dict of texts whose size is known -/
def dNz (k : Nat) (m : Str → Option Value) (o : Obj) : Prop := o.cls = .type "dict" ∧ ∃ es ep, o.data = .dict es ep ∧ StrKeys es ∧ (∀ n, nsFind es n = m n) ∧ es.size ≤ k
theorem nc_nz {k m} : NoCode (dNz k m) := fun o vs h e => by obtain ⟨_, es, ep, h, _⟩ := h; rw [h] at e; cases e
theorem At.nz {h : Heap} {a : Addr} {k : Nat} {m : Str → Option Value} (x : At h a (dNz k m)) : h.Ns a m := let ⟨o, e, _, es, ep, h1, h2, h3, _⟩ := x; ⟨o, es, ep, e, h1, h2, h3⟩
section
variable {w : World} {A : Around} {E : Value → Shared → Prop} {B h : Heap} {g : Array GenState} {d : Drawn} {t : Nat} {os : OsState} {own own' : Led} {fa dx : Addr} {fd : FuncData} {name : Str} {v : Value} {l : List (Str × Value)} {n : Nat}
theorem nsSet_z {k : Nat} {m : Str → Option Value} {Q : Unit → Shared → Prop} (D : At h dx (dNz k m)) (q : ∀ h', At h' dx (dNz (k + 1) (fun y => if y = name then some v else m y)) → Heap.SameBut dx h h' → Q () ⟨h', g, d, t + 1, os⟩) :
    wpM w A (nsSet dx name v) Q E ⟨h, g, d, t, os⟩ := by
  obtain ⟨o, ho, hc, es, ep, hd, hk, hm, hz⟩ := D
  unfold nsSet
  refine wpAny_bind (wpAny_bind (wpAny_askSetting (wpAny_pure (wpAny_bind (wpAny_mkText (wpAny_bind (wpAny_loadPart ho ?_)))))))
  have hany : es.any (·.refKey) = false := by
    rw [Array.any_eq_false']; intro e he; obtain ⟨n, t, h⟩ := hk e he; simp [DictEntry.refKey, h]
  rw [hd]
  dsimp only
  rw [aRefKeyMayBeTheName_eq, aRefKeyMayBeTheNameByArray, hany, Bool.and_false]
  refine wpAny_updatePart ho ?_
  refine q _ ?_ (Heap.SameBut.update ..)
  obtain ⟨c, dd, dt, sl⟩ := o
  subst hd
  cases hi : es.findIdx? (·.key.isStr name) with
  | some i =>
    refine ⟨_, Heap.get?_update_self _ ho (by simp only [Obj.putName_eq, Obj.putNameByArray, hi]; rfl), ?_, ?_⟩
    · simp only [Obj.putName_eq, Obj.putNameByArray, hi]; exact hc
    · refine ⟨_, ep, by simp only [Obj.putName_eq, Obj.putNameByArray, hi]; rfl, hk.modify _ _, fun x => ?_, by rw [Array.size_modify]; omega⟩
      show _ = if x = name then some v else m x
      rw [← hm]; exact findBy_modify (fun n v => v.isStr n) Value.isStr_inj es name x v i hi
  | none =>
    refine ⟨_, Heap.get?_update_self _ ho (by simp only [Obj.putName_eq, Obj.putNameByArray, hi]; rfl), ?_, ?_⟩
    · simp only [Obj.putName_eq, Obj.putNameByArray, hi]; exact hc
    · refine ⟨_, ep + 1, by simp only [Obj.putName_eq, Obj.putNameByArray, hi]; rfl, hk.push _ _ _ _, fun x => ?_, by rw [Array.size_push]; omega⟩
      show _ = if x = name then some v else m x
      rw [← hm]
      exact findBy_push (fun n v => v.isStr n) es name x _ _ v (fun y => by
        show (name == y) = decide (y = name)
        by_cases h : y = name
        · subst h; simp
        · have : ¬ name = y := fun e => h e.symm
          simp [h, this]) hi
theorem refuse_fn (s : Shared) (hT : s.TypeIs (.ref fa) "function") {Q : Unit → Shared → Prop} (q : Q () s) : wpM w A (refuseIfOverridden (.ref fa) "__setattr__") Q E s := by
  unfold refuseIfOverridden
  refine wpAny_bind (wpAny_typeOf hT ?_)
  refine wpAny_of_eq (a := ()) ?_ q
  kernel_rfl
theorem store_end {Q : Fin → Shared → Prop} {k : Nat} {m : Str → Option Value} {tk : Tok} (D : At h dx (dNz k m)) (hk : k < 1000) (q : ∀ h', At h' dx (dNz (k + 1) (fun y => if y = name then some v else m y)) → Heap.SameBut dx h h' → Q (.done (.ret .none)) ⟨h', g, d, t + 1, os⟩) :
    wpM w A (storeInDict dx (.str name tk) name v) Q E ⟨h, g, d, t, os⟩ := by
  unfold storeInDict
  refine wpAny_bind (wpAny_pure (wpAny_bind (nsSet_z D fun h' D' hs => wpAny_bind ?_)))
  obtain ⟨o, ho, hc, es, ep, hd, _, _, hz⟩ := id D'
  refine wpAny_lookBehind ho (by rw [hd]; exact pastItsLine_dict (by rw [sizeLine_eq]; omega)) ?_
  exact wpAny_pure (q h' D' hs)
theorem set_head {Q : Unit → Shared → Prop} {o : Obj} (ho : h.get? fa = some o) (hc : o.cls = .type "function") (hn : typeLookup (.type "function") name = pure none)
    (q : wpM w A.in1 (ownDictForStores (.ref fa)) (fun r s' => wpM w A.in1 (match r with | some dx => storeInDict dx (.str name t) name v | none => noDictFor (.ref fa) (.type "function") name false) (fun fin s'' => ∃ v, fin = .done (.ret v) ∧ Q () s'') E s') E ⟨h, g, d, t + 1, os⟩) :
    wpM w A (setAttr (.ref fa) name v) Q E ⟨h, g, d, t, os⟩ := by
  have hT : (⟨h, g, d, t, os⟩ : Shared).TypeIs (.ref fa) "function" := ⟨_, ho, hc⟩
  have hT1 : (⟨h, g, d, t + 1, os⟩ : Shared).TypeIs (.ref fa) "function" := ⟨_, ho, hc⟩
  unfold setAttr
  refine wpAny_bind (wpAny_mkText (wpAny_bind (wpAny_callSpecial?_slot hT1 slot_fset (wpAny_call_entry slot_fset hT1 entry_oset ?_ (args_oset _ _ _)))))
  show wpAny _ _ (Builtin.«object.__setattr__» ⟨[.ref fa, .str name t, v], []⟩) _ _ _
  rw [osa_eq]
  refine wpAny_bind (refuse_fn _ hT1 (wpAny_bind (wpAny_typeOf hT1 ?_)))
  rw [hn]
  refine wpAny_bind (wpAny_pure (wpAny_bind (wpAny_pure (wpAny_bind ?_))))
  refine wpAny_pure (wpAny_bind (wpAny_mono q (fun r s' z => wpAny_mono z (fun fin s'' z' => ?_) fun _ _ e => e) fun _ _ e => e))
  obtain ⟨v', e, z'⟩ := z'
  exact ⟨v', e, wpAny_pure z'⟩
/-- f.name = v on a function, whose dict (if it has one) is in the ledger -/
theorem set_fn0 {Q : Unit → Shared → Prop} {own' : Addr → Led} (S : St w B h own) (u : ∀ dx, LUp fa (dObj { cls := .type "function", data := .func fd }) (dObj { cls := .type "function", dict := some dx, data := .func fd }) own (own' dx))
    (q : ∀ dx h' t', St w B h' ((dx, dNz 1 (lk [(name, v)])) :: own' dx) → Q () ⟨h', g, d, t', os⟩) (hn : typeLookup (.type "function") name = pure none) : wpM w A (setAttr (.ref fa) name v) Q E ⟨h, g, d, t, os⟩ := by
  obtain ⟨o, ho, rfl⟩ := (S.nw _ (u 0).mem).1
  refine set_head ho rfl hn ?_
  show wpAny _ _ (instanceDict fa true) _ _ _
  unfold instanceDict
  refine wpAny_bind (wpAny_loadPart ho ?_)
  dsimp only
  rw [if_neg (by decide +kernel)]
  refine wpAny_bind (wpAny_alloc ?_)
  have S1 := S.alloc (dd := dNz 0 (lk [])) (o := { cls := .type "dict", data := .dict #[] }) ⟨rfl, #[], 0, rfl, fun _ he => by simp at he, fun _ => rfl, Nat.le_refl _⟩ nc_nz rfl
  have ho1 := (S1.nw _ (.tail _ (u 0).mem)).1
  obtain ⟨o1, e1, rfl⟩ := ho1
  refine wpAny_bind (wpAny_update e1 ?_)
  have S2 := S1.upd (.tail (u h.objs.size)) nc_fun (Heap.SameBut.update ..) (h' := (h.push { cls := .type "dict", data := .dict #[] }).update fa fun o => { o with dict := some h.objs.size }) ⟨_, Heap.get?_update_self _ e1 rfl, rfl⟩
  refine wpAny_of_eq (a := some h.objs.size) (by kernel_rfl) ?_
  refine store_end (S2.mem .head) (by decide) fun h' D' hs => ⟨_, rfl, q _ h' _ (S2.upd .head nc_nz hs ?_)⟩
  have : lk [(name, v)] = fun y => if y = name then some v else lk [] y := by rw [← lk_setL]; rfl
  rw [this]; exact D'
theorem set_fn1 {Q : Unit → Shared → Prop} {k : Nat} (S : St w B h own) (ho : At h fa (dObj { cls := .type "function", dict := some dx, data := .func fd })) (u : LUp dx (dNz k (lk l)) (dNz (k + 1) (lk (setL name v l))) own own') (hk : k < 1000)
    (q : ∀ h' t', St w B h' own' → Q () ⟨h', g, d, t', os⟩) (hn : typeLookup (.type "function") name = pure none) : wpM w A (setAttr (.ref fa) name v) Q E ⟨h, g, d, t, os⟩ := by
  obtain ⟨o, ho, rfl⟩ := ho
  refine set_head ho rfl hn ?_
  show wpAny _ _ (instanceDict fa true) _ _ _
  unfold instanceDict
  refine wpAny_bind (wpAny_loadPart ho ?_)
  dsimp only
  refine wpAny_pure ?_
  refine store_end (S.nw _ u.mem).1 hk fun h' D' hs => ⟨_, rfl, q h' _ (S.upd u nc_nz hs ?_)⟩
  rw [lk_setL]; exact D'
/-- f.name of a function that has it in its dict -/
theorem get_fn {Q : Value → Shared → Prop} {k : Nat} {ex : Bool} {m : Str → Option Value} (ho : At h fa (dObj { cls := .type "function", dict := some dx, data := .func fd })) (D : At h dx (dNz k m)) (hv : m name = some v) (hh : handedOut v = pure v) (hn : typeLookup (.type "function") name = pure none)
    (q : Q v ⟨h, g, d, t + 1, os⟩) : wpM w A (getAttr (.ref fa) name ex) Q E ⟨h, g, d, t, os⟩ := by
  obtain ⟨o, ho, rfl⟩ := ho
  have hT : (⟨h, g, d, t + 1, os⟩ : Shared).TypeIs (.ref fa) "function" := ⟨_, ho, rfl⟩
  unfold getAttr getAttrBy
  refine wpAny_bind (wpAny_mkText (wpAny_holding (wpAny_bind (wpAny_typeOf hT ?_))))
  rw [slot_fget.lookup]
  refine wpAny_bind (wpAny_pure ?_)
  show wpAny _ _ (getAttrByItsOwn (.ref fa) (.str name t) (.type "function") (.builtin "object.__getattribute__") true ex) _ _ _
  unfold getAttrByItsOwn hookBefore callGetattribute boundAndCalled
  refine wpAny_bind (wpAny_pure (wpAny_bind (wpAny_attempt (wpAny_holding ?_))))
  rw [show (ex && onTheHeap (Value.builtin "object.__getattribute__")) = false from Bool.and_false _, if_neg (by decide), slot_fget.bind]
  refine wpAny_bind (wpAny_pure (wpAny_call_entry slot_fget hT entry_oget ?_ (args_oget _ _)))
  show wpAny _ _ (Builtin.«object.__getattribute__» ⟨[.ref fa, .str name t], []⟩) _ _ _
  unfold Builtin.«object.__getattribute__»
  refine wpAny_bind (wpAny_of_eq (a := (Value.ref fa, [Value.str name t])) rfl ?_)
  refine wpAny_bind (wpAny_pure (wpAny_bind (wpAny_typeOf hT (wpAny_bind ?_))))
  unfold find
  rw [hn]
  refine wpAny_bind (wpAny_pure (wpAny_bind (wpAny_pure (wpAny_bind (wpAny_pure ?_)))))
  show wpAny _ _ (ownThenClass (.ref fa) name none none) _ _ _
  unfold ownThenClass inOwnDict ObjectAttr.ownDict
  refine wpAny_bind (wpAny_bind (wpAny_bind (wpAny_loadPart ho ?_)))
  show wpAny _ _ (instanceDict fa false) _ _ _
  unfold instanceDict
  refine wpAny_bind (wpAny_loadPart ho (wpAny_pure ?_))
  show wpAny _ _ (nsGet dx name) _ _ _
  refine wpAny_nsGet D.nz ?_
  rw [hv]
  refine wpAny_bind (wpAny_rule (wpAny_pure (wpAny_pure ⟨v, rfl, ?_⟩)))
  show wpAny _ _ (handedOut v) _ _ _
  rw [hh]
  exact wpAny_pure q
end

end
section
variable {w : World} {A : Around} {E : Value → Shared → Prop} {B h : Heap} {g : Array GenState} {d : Drawn} {t : Nat} {os : OsState} {own own' : Led} {fa dx a : Addr} {fd : FuncData} {name : Str} {v : Value} {l : List (Str × Value)} {n : Nat}
theorem get_method {dd : Option Addr} {Q : Value × List Value → Shared → Prop} {pl : Sem Bool} (ho : At h fa (dObj { cls := .type "function", dict := dd, data := .func fd })) (hn : typeLookup (.type "function") name = pure none)
    (q : wpM w A (getAttr (.ref fa) name) (fun v s' => Q (v, []) s') E ⟨h, g, d, t, os⟩) : wpM w A (getMethod (.ref fa) name pl) Q E ⟨h, g, d, t, os⟩ := by
  obtain ⟨o, ho, rfl⟩ := ho
  have hT : (⟨h, g, d, t, os⟩ : Shared).TypeIs (.ref fa) "function" := ⟨_, ho, rfl⟩
  have hg : typeLookup (.type "function") "__getattr__" = pure none := by rw [typeLookup_type, builtinLookup_eq_fast]; kernel_rfl
  unfold getMethod
  refine wpAny_bind (wpAny_specialOf hT slot_fget.lookup ?_)
  dsimp only
  rw [if_neg (by decide +kernel)]
  refine wpAny_bind (wpAny_specialOf hT hg ?_)
  rw [if_neg (by decide)]
  refine wpAny_bind (wpAny_specialOf hT hn ?_)
  exact wpAny_bind (wpAny_mono q (fun v s' z => wpAny_pure z) fun _ _ e => e)
theorem cw_fun {pos : Pos} {first : List Value} {args : List (Bool × Sem Value)} {Q : Value → Shared → Prop} {s : Shared}
    (q : wpM w A (evalArgs (.ref a) true args []) (fun x s₁ => (∃ fd, At s₁.heap a (dFun fd)) ∧ wpM w A (call (.ref a) (first ++ x.pos) x.kw) Q E s₁) E s) :
    wpM w A (callWith pos (.ref a) first args []) Q E s := by
  unfold callWith
  refine wpAny_bind (wpAny_holding (wpAny_mono q (fun x s₁ h₁ => wpAny_bind (wpAny_standAt ?_)) fun _ _ x => x))
  obtain ⟨⟨fd, o, ho, hd⟩, h₁⟩ := h₁
  have tail : ∀ {t : Sem Value}, wpAny (model Pr w) A t Q E s₁ → wpAny (model Pr w) A (t >>= fun r => holding [r] point >>= fun _ => pure r) Q E s₁ :=
    fun ht => wpAny_bind (wpAny_mono ht (fun r s₂ hr => wpAny_bind (wpAny_holding (wpAny_point (wpAny_pure hr)))) fun _ _ x => x)
  refine wpAny_bind (m := keeperOf (.ref a)) ?_
  unfold keeperOf
  refine wpAny_bind (wpAny_load ho ?_)
  have hd' : o.data = .func fd := hd
  rw [hd']
  refine wpAny_pure ?_
  cases hs : (args.any (·.1) || ([] : List (Option Str × Sem Value)).any (·.1.isNone))
  · dsimp only
    split
    · exact tail h₁
    · exact tail (wpAny_keep h₁)
  · exact tail (wpAny_keep h₁)
theorem r_alloc {o : Obj} {Q : Addr → Shared → Prop} {dd : Obj → Prop} (S : St w B h own) (hd : dd o) (nc : NoCode dd) (hf : o.isFreed = false) (q : ∀ a h', St w B h' ((a, dd) :: own) → Q a ⟨h', g, d, t, os⟩) : wpM w A (alloc o) Q E ⟨h, g, d, t, os⟩ :=
  wpAny_alloc (q _ _ (S.alloc hd nc hf))
theorem r_newList {vs : List Value} {Q : Value → Shared → Prop} (S : St w B h own) (q : ∀ a h', St w B h' ((a, dList vs) :: own) → Q (.ref a) ⟨h', g, d, t, os⟩) (hz : vs.length ≤ sizeLine) : wpM w A (newList vs) Q E ⟨h, g, d, t, os⟩ :=
  wpAny_newObj_type (q _ _ (S.alloc ⟨_, rfl⟩ nc_list rfl)) (by show vs.toArray.size ≤ sizeLine; rw [List.size_toArray]; exact hz)
theorem r_newTuple {vs : List Value} {Q : Value → Shared → Prop} (S : St w B h own) (q : ∀ a h', St w B h' ((a, dTup vs) :: own) → Q (.ref a) ⟨h', g, d, t, os⟩) (hz : vs.length ≤ sizeLine) : wpM w A (newTuple vs) Q E ⟨h, g, d, t, os⟩ :=
  wpAny_newObj_type (q _ _ (S.alloc ⟨_, rfl⟩ nc_tup rfl)) (by show vs.toArray.size ≤ sizeLine; rw [List.size_toArray]; exact hz)
section
variable {cn : Str} {cs : Scope} {L f c P : Addr} {cl clos : List (Str × Addr)} {sp : Spec} {qual : Str} {params : Arguments} {body : List Stmt} {be : Expr} {scope : Scope} {pos : Pos} {fl : Nat}
theorem r_Lambda {Q : Value → Shared → Prop} (S : St w B h own) (C : CodeHd h c P) (hTS : (P, sp) ∈ TS) (hq : (envX cn cs L f (.ref c) cl).qual ++ "<lambda>" = qual) (hcl : closureFor scope (envX cn cs L f (.ref c) cl) = pure clos) (hsp : sp.contains ((pos.line, pos.col), qual) = true)
    (hu : (sp.all fun e => !(e.1.1 == pos.line && e.1.2 == pos.col) || e.2 == qual) = true) (hP : P ≠ 4 ∧ mainGlobals ≠ P) (hdef : defaultsOf params (envX cn cs L f (.ref c) cl) = ([], []))
    (q : ∀ fa c' ctv B' h' t', Ext B B' → c' ∉ Tb → B'.CodeRec (.ref c') qual → St w B' h' ((fa, dObj (kla_obj "<lambda>" qual params be scope clos (pmOf w) c' ctv)) :: own) → Q (.ref fa) ⟨h', g, d, t', os⟩) :
    wpM w A (eval (.Lambda params be scope pos) (envX cn cs L f (.ref c) cl)) Q E ⟨h, g, d, t, os⟩ := by
  subst hq
  exact kla_eval hdef (r_lam S hTS C hcl hsp hu hP q)
theorem r_FunctionDef {Q : Flow → Shared → Prop} (S : St w B h own) (C : CodeHd h c P) (hTS : (P, sp) ∈ TS) (hq : qualnameIn (envX cn cs L f (.ref c) cl) name name = qual) (hcl : closureFor scope (envX cn cs L f (.ref c) cl) = pure clos) (hsp : sp.contains ((pos.line, pos.col), qual) = true)
    (hu : (sp.all fun e => !(e.1.1 == pos.line && e.1.2 == pos.col) || e.2 == qual) = true) (hP : P ≠ 4 ∧ mainGlobals ≠ P) (hd0 : params.defaults = []) (hk0 : params.kw_defaults = []) (ha : annTrees params none (envX cn cs L f (.ref c) cl) = [])
    (q : ∀ fa c' ctv doc B' h' t', Ext B B' → c' ∉ Tb → B'.CodeRec (.ref c') qual → St w B' h' ((fa, dObj (fnMade name qual params body scope clos doc (pmOf w) c' ctv)) :: own) →
      wpM w A (storeName (envX cn cs L f (.ref c) cl) name (.ref fa)) (fun _ s'' => Q .next s'') E ⟨h', g, d, t', os⟩) :
    wpM w A (exec (.FunctionDef name params body [] none [] scope none name pos) (envX cn cs L f (.ref c) cl)) Q E ⟨h, g, d, t, os⟩ := by
  subst hq
  exact nestDef_K hd0 hk0 ha (r_def S hTS C hcl hsp hu hP q)
end
end
section
variable {w : World} {A : Around} {E : Value → Shared → Prop} {B h : Heap} {g : Array GenState} {d : Drawn} {t : Nat} {os : OsState} {own own' : Led} {name : Str} {v : Value} {n u : Nat}
variable {cn : Str} {cs : Scope} {L f c P : Addr} {cl clos : List (Str × Addr)} {sp : Spec} {qual : Str} {params : Arguments} {body : FuncBody} {be : Expr} {scope : Scope} {pos : Pos} {fl : Nat} {dV : Value} {Q : Value → Shared → Prop}
theorem r_tail (S : St w B h own) (hTS : (P, sp) ∈ TS) (C : CodeHd h c P) (hcl : closureFor scope (envX cn cs L f (.ref c) cl) = pure clos) (hsp : sp.contains ((pos.line, pos.col), qual) = true)
    (hu : (sp.all fun e => !(e.1.1 == pos.line && e.1.2 == pos.col) || e.2 == qual) = true) (hP : P ≠ 4 ∧ mainGlobals ≠ P)
    (q : ∀ fa c' ctv doc B' h' t', Ext B B' → c' ∉ Tb → B'.CodeRec (.ref c') qual → St w B' h' ((fa, dObj (kdv_obj name qual params body scope clos dV doc (pmOf w) c' ctv)) :: own) → Q (.ref fa) ⟨h', g, d, t', os⟩) :
    wpM w A (makeTail name qual params body scope (envX cn cs L f (.ref c) cl) dV .none none pos fl) Q E ⟨h, g, d, t, os⟩ := by
  obtain ⟨ps, e, ht, _⟩ := id (S.tb.tt _ hTS)
  cases hf : codeAmong pos ps.toList with
  | none =>
    refine kdv_makeTail hcl rfl (gl_ns S.kinh) rfl C e ht hf hP.2 (blt_at S.kinh hP.1) fun c' ctv doc h' tk hx hge hlt hrec htb => ?_
    have hc : c' ∉ Tb := fun hm => tb_lt (P := w.params) S.tb _ hm (Heap.get?_none_of_le hge)
    have S1 := S.grow hTS e hx htb hc hrec hu
    obtain ⟨B', X, r, S2⟩ := S1.learn hrec hc
    exact q _ c' ctv doc B' _ tk X hc r (S2.alloc (dd := dObj _) rfl nc_fun rfl)
  | some cv =>
    obtain ⟨c', rfl, hc, hrec⟩ := tabHit (S.tb.tt _ hTS) e hsp hf
    refine kdv_makeTailHit hcl rfl (gl_ns S.kinh) rfl C e ht hf (blt_at S.kinh hP.1) fun ctv doc h' tk hk _ => ?_
    have S1 : St w B h' own := ⟨S.keep.trans (ExtT.all hk), fun p hp => ⟨(S.nw p hp).1.keeps hk, (S.nw p hp).2⟩, S.nd, tabs_keeps S.tb hk, S.kin⟩
    obtain ⟨B', X, r, S2⟩ := S1.learn (hrec.keeps hk) hc
    exact q _ c' ctv doc B' _ tk X hc r (S2.alloc (dd := dObj _) rfl nc_fun rfl)
/-- a def with defaults, made in a body -/
theorem r_FunctionDefD {body : List Stmt} {Q : Flow → Shared → Prop} (C : ∀ {h}, KIn w.params h → CodeHd h c P) (hTS : (P, sp) ∈ TS) (hq : qualnameIn (envX cn cs L f (.ref c) cl) name name = qual) (hcl : closureFor scope (envX cn cs L f (.ref c) cl) = pure clos) (hsp : sp.contains ((pos.line, pos.col), qual) = true)
    (hu : (sp.all fun e => !(e.1.1 == pos.line && e.1.2 == pos.col) || e.2 == qual) = true) (hP : P ≠ 4 ∧ mainGlobals ≠ P) (hd0 : params.defaults.isEmpty = false) (hk0 : params.kw_defaults = []) (ha : annTrees params none (envX cn cs L f (.ref c) cl) = [])
    (q : wpM w A (evalAll (evalEach params.defaults (envX cn cs L f (.ref c) cl))) (fun dv s₁ => ∃ h₁ t₁ B own, s₁ = ⟨h₁, g, d, t₁, os⟩ ∧ St w B h₁ own ∧ dv.isEmpty = false ∧ dv.length ≤ sizeLine ∧ ∀ fa T c' ctv doc B' h' t', Ext B B' → c' ∉ Tb → B'.CodeRec (.ref c') qual →
      St w B' h' ((fa, dObj (kdv_obj name qual params (.stmts body) scope clos (.ref T) doc (pmOf w) c' ctv)) :: (T, dTup dv) :: own) →
      wpM w A (storeName (envX cn cs L f (.ref c) cl) name (.ref fa)) (fun _ s'' => Q .next s'') E ⟨h', g, d, t', os⟩) E ⟨h, g, d, t, os⟩) :
    wpM w A (exec (.FunctionDef name params body [] none [] scope none name pos) (envX cn cs L f (.ref c) cl)) Q E ⟨h, g, d, t, os⟩ := by
  subst hq
  refine kdv_def hd0 hk0 ha (wpAny_mono q (fun dv s₁ z => ?_) fun _ _ e => e)
  obtain ⟨h₁, t₁, B, own, rfl, S, hne, hz, k⟩ := z
  rw [makeFunction_eq]
  simp only [List.zip_nil_right, List.filterMap_nil, List.isEmpty_nil, if_true, pure_bind, hne, Bool.false_eq_true, if_false]
  refine wpAny_bind (wpAny_newTextTuple ?_)
  have S1 := S.alloc (o := { cls := .type "tuple", data := .seq dv.toArray }) (dd := dTup dv) ⟨_, rfl⟩ nc_tup rfl
  exact r_tail S1 hTS (C S1.kinh) hcl hsp hu hP fun fa c' ctv doc B' h' t' X hc r S => k fa _ c' ctv doc B' h' t' X hc r S
/-- a call of a lambda made in a body -/
theorem enterL {args : List Value} {binds : List (Str × Value)} {l : List (Str × Value)} {pm ctv cdv : Value} {h : Heap} (a : AOk A n u) (hn : Nat.blt n recursionLimit = true) (hf : At h f (dFun (kla_fn name qual params be scope cl pm cdv ctv))) (K : KIn w.params h) (T : Tabs h) (hcd : h.CodeRec cdv qual)
    (hb : BindsTo ⟨h, g, d, t, os⟩ (kla_fn name qual params be scope cl pm cdv ctv) ⟨args, []⟩ binds)
    (k : ∀ L h₁ t₁ A' E', AOk A' (n + 1) (u + 3) → St w h h₁ [(L, dNs (lk l))] → wpM w A' (eval be (envX qual scope L f cdv cl)) Q E' ⟨h₁, g, d, t₁, os⟩)
    (hbl : binds.reverse = l := by rfl) (hl : (binds.all fun x => decide (scope.names.lookup x.1 = some .local)) = true := by rfl) (hc : (scope.names.all fun x => x.2 != .cell) = true := by rfl)
    (hco : scope.isCoroutine = false := by rfl) (hgen : scope.isGenerator = false := by rfl) (hk : scope.kind = .function := by rfl) : wpM w A (call (.ref f) args []) Q E ⟨h, g, d, t, os⟩ := by
  obtain ⟨fo, hfo, hfd⟩ := hf
  subst hbl
  have L0 : h.get? h.objs.size = none := fresh_get
  have LT : h.objs.size ∉ Tb := fun hm => tb_lt (P := w.params) T _ hm fresh_get
  refine wpAny_call (kla_callFunE (fd := kla_fn name qual params be scope cl pm cdv ctv) (body := be) (Nat.lt_of_le_of_lt a.dp (by exact Nat.le_of_ble_eq_true hn)) hfo hfd hco hgen rfl hcd (hb _ _ _ _ ?_))
  refine wpAny_newFunctionEnv (fun x hx => by have := List.all_eq_true.mp hc x hx; simpa using this) (locs hl) (fun h₁ hns hsb => ⟨(nolim K).fresh _ hsb, kla_codeExpr ?_⟩) hk
  have hk₁ : ∀ b o, h.get? b = some o → h₁.get? b = some o := fun b o e => hsb.extBut b o (Nat.ne_of_lt (Heap.lt_size e)) (Heap.get?_push_of_some _ e)
  refine wpAny_mono (k h.objs.size h₁ _ _ _ a.deeper ⟨ExtT.all hk₁, fun p hp => ?_, by simp, tabs_keeps T hk₁, K⟩) (fun fl s' q => q) fun _ _ e => e
  cases hp with
  | head => exact ⟨At.of_ns hns, L0, LT, nc_ns⟩
  | tail _ hp => cases hp
end
set_option hygiene false in
local macro_rules | `(tactic| wtm_at "mine w_new") => `(tactic| first
  | ((with_reducible refine' r_newList S ?_ ?zzz); (case zzz => exact Nat.le_of_ble_eq_true rfl); clear S; intro a h' S)
  | ((with_reducible refine' r_newTuple S ?_ ?zzz); (case zzz => exact Nat.le_of_ble_eq_true rfl); clear S; intro a h' S))
local macro_rules | `(tactic| wtm_at "mine w_tl") => `(tactic| (rw [typeLookup_type, builtinLookup_eq_fast]; kernel_rfl!))
set_option hygiene false in
local macro_rules | `(tactic| wtm_at "mine w_set") => `(tactic| first
  | ((with_reducible refine' set_fn1 S ?zzho ?zzu ?zzhk ?_ ?zzhn); (case zzho => wtm_at "mine kn"); (case zzu => wtm_at "mine m_lu"); (case zzhk => decide); (case zzhn => wtm_at "mine w_tl"); clear S; intro h' t' S)
  | ((with_reducible refine' set_fn0 S ?zzu ?_ ?zzhn); (case zzu => (intro dx; wtm_at "mine m_lu")); (case zzhn => wtm_at "mine w_tl"); clear S; intro dx h' t' S))
set_option hygiene false in
local macro_rules | `(tactic| wtm_at "mine w_get") => `(tactic| ((with_reducible refine' get_fn ?zzho ?D ?zzhv ?zzhh ?zzhn ?_); (case zzho => wtm_at "mine kn"); (case D => wtm_at "mine kn"); (case zzhv => wtm_at "mine w_lk"); (case zzhh => exact rfl); (case zzhn => wtm_at "mine w_tl")))
local macro_rules | `(tactic| wtm_at "mine w2") => `(tactic| first
  | wtm_at "mine w1"
  | wtm_at "mine w_new"
  | wtm_at "mine w_set"
  | wtm_at "mine w_get"
  | with_reducible refine wpAny_items_nil ?_
  | ((with_reducible refine' wpAny_items_cons ?_ ?zzhe); (case zzhe => exact rfl))
  | with_reducible refine Tuple_ ?_
  | with_reducible refine wpAny_Break ?_
  | with_reducible refine List_ ?_
  | ((with_reducible refine' plainObj_wpAny_Assign_Attribute ?_ ?zzhs); (case zzhs => exact rfl))
  | ((with_reducible refine' Attribute_any_ ?_ ?zzhe); (case zzhe => with_unfolding_all rfl)))

theorem St.keeps {w : World} {B h h' : Heap} {own : Led} (S : St w B h own) (hk : ∀ b o, h.get? b = some o → h'.get? b = some o) : St w B h' own :=
  ⟨S.keep.trans (ExtT.all hk), fun p hp => ⟨(S.nw p hp).1.keeps hk, (S.nw p hp).2⟩, S.nd, tabs_keeps S.tb hk, S.kin⟩
theorem St.extNew {w : World} {B h h' : Heap} {own : Led} (S : St w B h own) (x : Heap.ExtBut h.objs.size h h') : St w B h' own :=
  S.keeps fun b o e => x b o (Nat.ne_of_lt (Heap.lt_size e)) e
section
variable {w : World} {A : Around} {E : Value → Shared → Prop} {B h : Heap} {g : Array GenState} {d : Drawn} {t : Nat} {os : OsState} {own own' : Led} {a b : Addr} {v : Value} {n u : Nat} {xs ys : List Value} {Q : Value → Shared → Prop}
theorem o_addL (S : St w B h own) (hl : At h a (dList xs)) (hb : At h b (dList ys)) (q : ∀ c h', St w B h' ((c, dList (xs ++ ys)) :: own) → Q (.ref c) ⟨h', g, d, t, os⟩) (hz : xs.length + ys.length ≤ sizeLine) :
    wpM w A (binaryOp .Add (.ref a) (.ref b)) Q E ⟨h, g, d, t, os⟩ := by
  obtain ⟨o1, ho, n1, rfl⟩ := hl
  obtain ⟨o2, ho2, n2, rfl⟩ := hb
  have e : xs.toArray ++ ys.toArray = (xs ++ ys).toArray := by simp
  refine concat_meets ⟨_, ho, rfl⟩ ⟨_, ho2, rfl⟩ noFill_list_add seq_list_add PySem.F.slot_list_add PySem.F.entry_list_add (PySem.F.args_list_add_2 _ _) (list_addW a b xs.toArray ys.toArray n1 n2 none none #[] #[] (by simpa using hz)) ⟨ho, ho2, ?_⟩
  rw [e]
  exact q _ _ (S.alloc ⟨_, rfl⟩ nc_list rfl)
theorem item_lneg {value slice : Expr} {k : Int} {tk : Tok} {x : Value} (ht : At h a (dList xs)) (hlo : k < 0) (hhi : -(2 ^ 63) ≤ k) (h1 : -(xs.length : Int) ≤ k) (hx : xs[(k + xs.length).toNat]? = some x) (q : Q x ⟨h, g, d, t, os⟩)
    (hs : subscripted slice false (.ref a) (.int k tk) = operate [.ref a, .int k tk] (getItem (.ref a) (.int k tk)) := by with_unfolding_all rfl) :
    wpM w A (subscriptTail value slice (.ref a) (.int k tk)) Q E ⟨h, g, d, t, os⟩ :=
  have hL := ht.list
  tail_any (s := ⟨h, g, d, t, os⟩) hL.typeIs slot_list_getitem.lookup (wpAny_getItem_list_neg hL hlo (by simpa using h1) hhi (by simpa using hx) q) hs
theorem o_len (hl : At h a (dList xs)) (hz : xs.length ≤ sizeLine) (q : ∀ t', Q (.int xs.length t') ⟨h, g, d, t + 1 + 1, os⟩) : wpM w A (call (.builtin "len") [.ref a] []) Q E ⟨h, g, d, t, os⟩ :=
  call_len_list (items := xs.toArray) hl.list (by rw [sizeLine_eq] at hz; rw [List.size_toArray]; omega) (by rw [List.size_toArray]; exact q _)
def dRange (n : Int) (o : Obj) : Prop := ∃ x y z, o = { cls := .type "range", dict := none, data := .fields #[.int 0 x, .int n y, .int 1 z], slots := #[] }
theorem nc_range {n : Int} : NoCode (dRange n) := fun o vs h e => by
  obtain ⟨x, y, z, rfl⟩ := h
  cases e
  exact ⟨fun z => (nomatch z), fun q t z => by cases z⟩
theorem o_range {k : Int} {tk : Tok} (S : St w B h own) (q : ∀ c h' t', St w B h' ((c, dRange k) :: own) → Q (.ref c) ⟨h', g, d, t', os⟩) : wpM w A (call (.type "range") [.int k tk] []) Q E ⟨h, g, d, t, os⟩ :=
  call_range_1 (q _ _ _ (S.alloc ⟨_, _, _, rfl⟩ nc_range rfl))
theorem o_max2 {i j : Int} {x y : Tok} (ha : A.handled = none) (S : St w B h own) (q : ∀ h' t' x', St w B h' own → Q (.int (max i j) x') ⟨h', g, d, t', os⟩) : wpM w A (call (.builtin "max") [.int i x, .int j y] []) Q E ⟨h, g, d, t, os⟩ :=
  max_two_ints ha fun h' tk hk => by
    by_cases c : j > i
    · rw [if_pos c]; have := q h' tk y (S.keeps hk); rwa [show max i j = j by omega] at this
    · rw [if_neg c]; have := q h' tk x (S.keeps hk); rwa [show max i j = i by omega] at this
theorem o_append (S : St w B h own) (u : LUp a (dList xs) (dList (xs ++ [v])) own own') (hz : xs.length ≤ sizeLine) (q : ∀ h', St w B h' own' → Q .none ⟨h', g, d, t, os⟩) :
    wpM w A (call (.builtin "list.append") [.ref a, v] []) Q E ⟨h, g, d, t, os⟩ := by
  obtain ⟨o, ho, n, rfl⟩ := (S.nw _ u.mem).1
  refine wpAny_call_entry slot_list_append ⟨_, ho, rfl⟩ entry_list_append ?_ (args_list_append _ _)
  show wpAny _ _ (updateSeq a (·.push v) >>= fun _ => ret .none) _ _ _
  refine wpAny_bind (wpAny_updateSeq ho rfl (wpAny_pure ⟨.none, rfl, q _ (S.upd u nc_list (Heap.SameBut.update ..) ?_)⟩) (by rw [List.size_toArray]; exact hz))
  refine ⟨_, Heap.get?_update_self _ ho rfl, n + 1, ?_⟩
  simp [Obj.mapSeq]
theorem intItems_of : ∀ {xs : List Value} {ns : List Int}, IntsAre xs ns → ∃ ps : Array (Int × Tok), xs.toArray = intItems ps ∧ ns = ps.toList.map (·.1)
  | _, _, .nil => ⟨#[], by simp [intItems], by simp⟩
  | _, _, .cons (vs := vs) i tk r => by
    obtain ⟨ps, e1, e2⟩ := intItems_of r
    refine ⟨#[(i, tk)] ++ ps, ?_, by simp [e2]⟩
    rw [show (Value.int i tk :: vs).toArray = #[Value.int i tk] ++ vs.toArray from by simp, e1]
    simp [intItems]
theorem o_sum {ns : List Int} (ha : A.handled = none) (S : St w B h own) (hl : h.IsList a xs.toArray) (hi : IntsAre xs ns) (q : ∀ h' t' x', St w B h' own → Q (.int ns.sum x') ⟨h', g, d, t', os⟩) : wpM w A (call (.builtin "sum") [.ref a] []) Q E ⟨h, g, d, t, os⟩ := by
  obtain ⟨ps, e1, e2⟩ := intItems_of hi
  refine sum_intListG (xs := ps) ha (by rw [← e1]; exact hl) fun h' tk t' hk => ?_
  have := q h' tk t' (S.keeps hk)
  rw [preSum_eq, List.take_of_length_le (by simp)]
  rw [e2] at this
  exact this
def dSlice (x y z : Value) (o : Obj) : Prop := o = { cls := .type "slice", dict := none, data := .fields #[x, y, z], slots := #[] }
theorem nc_slice {x y z : Value} (hy : ∀ q t, y ≠ .str q t) : NoCode (dSlice x y z) := fun o vs h e => by
  cases h; cases e
  exact ⟨fun z => (nomatch z), fun q t z => hy q t (Option.some.inj z)⟩
/-- xs[lo:hi:st] -/
theorem o_slice {vl vu vs : Value} {lo hi st : Option Int} (S : St w B h own) (hl : h.IsList a xs.toArray) (hs : At h b (dSlice vl vu vs)) (pl : IsPart vl lo) (pu : IsPart vu hi) (ps : IsPart vs st) (h0 : st ≠ some 0) (hz : xs.length ≤ sizeLine)
    (q : ∀ c h', St w B h' ((c, dList (slicePick xs.toArray lo hi st).toList) :: own) → Q (.ref c) ⟨h', g, d, t, os⟩) : wpM w A (getItem (.ref a) (.ref b)) Q E ⟨h, g, d, t, os⟩ := by
  obtain ⟨o, ho, rfl⟩ := hs
  refine wpAny_getItem_list_slice hl ⟨_, ho, rfl, rfl⟩ pl pu ps h0 (q _ _ (S.alloc ⟨0, ?_⟩ nc_list rfl)) (by rw [List.size_toArray]; exact hz)
  simp
theorem r_Slice {env : Env} {lo hi st : Option Expr} {pos : Pos} (q : wpM w A (evalPart lo env) (fun x s₁ => wpM w A (evalPart hi env) (fun y s₂ => wpM w A (evalPart st env) (fun z s₃ => ∃ h' t' B own, s₃ = ⟨h', g, d, t', os⟩ ∧ St w B h' own ∧ (∀ q t, y ≠ .str q t) ∧
    ∀ c h'', St w B h'' ((c, dSlice x y z) :: own) → Q (.ref c) ⟨h'', g, d, t', os⟩) E s₂) E s₁) E ⟨h, g, d, t, os⟩) : wpM w A (eval (.Slice lo hi st pos) env) Q E ⟨h, g, d, t, os⟩ := by
  refine wpAny_Slice (wpAny_mono q (fun x s₁ z => wpAny_mono z (fun y s₂ z => wpAny_mono z (fun v s₃ z => ?_) fun _ _ e => e) fun _ _ e => e) fun _ _ e => e)
  obtain ⟨h', t', B, own, rfl, S, hy, k⟩ := z
  exact k _ _ (S.alloc (dd := dSlice x y v) rfl (nc_slice hy) rfl)
theorem part_none {env : Env} {s : Shared} (q : Q .none s) : wpM w A (evalPart none env) Q E s := wpAny_pure q
theorem part_some {env : Env} {e : Expr} {s : Shared} (q : wpM w A (eval e env) Q E s) : wpM w A (evalPart (some e) env) Q E s := q
theorem sub_slice {env : Env} {value : Expr} {lo hi : Option Expr} {p pos : Pos}
    (q : wpM w A (eval value env) (fun o s₁ => wpM w A (eval (.Slice lo hi none p) env) (fun i s₂ => s₂.TypeIs o "list" ∧ wpM w A (getItem o i) Q E s₂) E s₁) E ⟨h, g, d, t, os⟩)
    (ht : ∀ o r, letTemporaryGo value o r = pure () := by intro _ _; rfl) :
    wpM w A (eval (.Subscript value (.Slice lo hi none p) pos) env) Q E ⟨h, g, d, t, os⟩ := wpAny_Subscript_Slice slot_list_getitem.lookup q ht
theorem sub_sliceS {env : Env} {value st : Expr} {lo hi : Option Expr} {p pos : Pos}
    (q : wpM w A (eval value env) (fun o s₁ => wpM w A (eval (.Slice lo hi (some st) p) env) (fun i s₂ => s₂.TypeIs o "list" ∧ wpM w A (getItem o i) Q E s₂) E s₁) E ⟨h, g, d, t, os⟩)
    (ht : ∀ o r, letTemporaryGo value o r = pure () := by intro _ _; rfl) :
    wpM w A (eval (.Subscript value (.Slice lo hi (some st) p) pos) env) Q E ⟨h, g, d, t, os⟩ := wpAny_Subscript_Slice_step slot_list_getitem.lookup q ht
/-- a, b, .. = a tuple -/
theorem o_unpack {env : Env} {elts : List Expr} {k : Nat} {pos : Pos} {Q : Unit → Shared → Prop} (ha : A.handled = none) (S : St w B h own) (ht : At h a (dTup xs)) (hn : (assignEach elts env).length = xs.length) (hst : (assignEach elts env).findIdx? (·.1) = none)
    (q : ∀ h', St w B h' own → wpM w A (assignInOrder ((assignEach elts env).map (·.2)) xs) Q E ⟨h', g, d, t, os⟩) : wpM w A (assign (.Tuple elts k pos) env (.ref a)) Q E ⟨h, g, d, t, os⟩ :=
  assign_Tuple_tuple ha ht.tup (by rw [hn, List.size_toArray]) hst fun h' x => by
    have := q h' (S.extNew x)
    simpa using this
theorem o_inOrder_nil {Q : Unit → Shared → Prop} {s : Shared} {ts : List (Value → Sem Unit)} (q : Q () s) : wpM w A (assignInOrder ts []) Q E s := by
  cases ts <;> exact wpAny_pure q
theorem o_inOrder {Q : Unit → Shared → Prop} {s : Shared} {f : Value → Sem Unit} {ts : List (Value → Sem Unit)} {x : Value} {xs : List Value} (q : wpM w A (f x) (fun _ s' => wpM w A (assignInOrder ts xs) Q E s') E s) : wpM w A (assignInOrder (f :: ts) (x :: xs)) Q E s := by
  unfold assignInOrder
  exact wpAny_bind (wpAny_holding q)
def dRIt (x left : Int) (o : Obj) : Prop := o = { cls := .type "range_iterator", dict := none, data := .fields #[rawInt x, rawInt left, rawInt 1], slots := #[] }
theorem nc_rit {x left : Int} : NoCode (dRIt x left) := fun o vs h e => by
  cases h; cases e
  exact ⟨fun z => (nomatch z), fun q t z => by cases z⟩
section
variable {cs : Scope} {cn : Str} {cd : Value} {cl : List (Str × Addr)} {L f : Addr} {x : Str} {px pos : Pos} {iter : Expr} {body : List Stmt} {l : List (Str × Value)} {rest : Led} {Q : Flow → Shared → Prop}
/-- for x in range(k) -/
theorem for_range {k : Nat} (J : Nat → Heap → List (Str × Value) → Led → Prop) (ao : AOk A n u)
    (hiter : wpM w A (eval iter (envX cn cs L f cd cl)) (fun v s' => ∃ ra h' t' l rest, v = .ref ra ∧ s' = ⟨h', g, d, t', os⟩ ∧ At h' ra (dRange k) ∧ St w B h' ((L, dNs (lk l)) :: rest) ∧ J 0 B l rest) E ⟨h, g, d, t, os⟩)
    (turn : ∀ i tk B' l' rest' it h' t' E' (Post : Flow → Shared → Prop), i < k → J i B' l' rest' → Ext B B' → St w B' h' ((it, dRIt ((i : Int) + 1) ((k : Int) - i - 1)) :: (L, dNs (lk (setL x (.int i tk) l'))) :: rest') →
      (∀ fl h'' t'' B'' l'' rest'', fl = .next ∨ fl = .cont → Ext B' B'' → St w B'' h'' ((it, dRIt ((i : Int) + 1) ((k : Int) - i - 1)) :: (L, dNs (lk l'')) :: rest'') → J (i + 1) B'' l'' rest'' → Post fl ⟨h'', g, d, t'', os⟩) → (∀ s', Q .next s' → Post .brk s') → (∀ v s', Q (.ret v) s' → Post (.ret v) s') →
      wpM w A (execs body (envX cn cs L f cd cl)) Post E' ⟨h', g, d, t', os⟩)
    (done : ∀ B' l' rest' h' t', J k B' l' rest' → Ext B B' → St w B' h' ((L, dNs (lk l')) :: rest') → Q .next ⟨h', g, d, t', os⟩) (hkb : k < 2 ^ 60)
    (hs : ∀ v, foldedSetIterable iter (envX cn cs L f cd cl) v = pure v := by intro _; rfl)
    (hk : cs.kind = .function := by rfl) (hx : (envX cn cs L f cd cl).kindOf x = some .local := by rfl) :
    wpM w A (exec (.For (.Name x px) iter body [] pos) (envX cn cs L f cd cl)) Q E ⟨h, g, d, t, os⟩ := by
  refine wpAny_For (wpAny_mono hiter (fun v s' z => ?_) fun _ _ e => e) hs
  obtain ⟨ra, h₁, t₁, l, rest, rfl, rfl, ⟨o, ho, x1, y1, z1, rfl⟩, S, j0⟩ := z
  have hsm : Builtin.Range.small 0 (k : Int) 1 = true := by
    unfold Builtin.Range.small Builtin.Range.rangeFitsLong
    rw [rangeSize_one]
    simp only [Bool.and_eq_true, Bool.or_eq_true, decide_eq_true_eq, beq_iff_eq]
    refine ⟨⟨⟨⟨?_, ?_⟩, ?_⟩, ?_⟩, .inr ?_⟩ <;> (try split) <;> (try simp only [decide_eq_true_eq, Bool.and_eq_true]) <;> omega
  refine wpAny_pyIter_range ho hsm ?_
  have hrs : Builtin.Range.rangeSize 0 (k : Int) 1 = k := by rw [rangeSize_one]; split <;> omega
  rw [hrs]
  have S1 : St w B (h₁.push { cls := .type "range_iterator", data := .fields #[rawInt 0, rawInt (k : Int), rawInt 1] }) ((h₁.objs.size, dRIt 0 k) :: (L, dNs (lk l)) :: rest) := S.alloc (dd := dRIt 0 k) rfl nc_rit rfl
  refine codeAny_forLoop (fun m s' => ∃ i h' t' B' l' rest', m + i = k ∧ s' = ⟨h', g, d, t', os⟩ ∧ Ext B B' ∧ St w B' h' ((h₁.objs.size, dRIt (i : Nat) ((k : Int) - (i : Nat))) :: (L, dNs (lk l')) :: rest') ∧ J i B' l' rest') ?_ k
    ⟨0, _, _, B, l, rest, rfl, rfl, ExtT.refl _ _, by simpa using S1, j0⟩
  rintro m s' ⟨i, h', t', B', l', rest', hki, rfl, X, S', j⟩
  obtain ⟨o, ho', e⟩ := S'.mem .head
  by_cases hik : i = k
  · subst hik
    refine wpAny_pyNext_range_end ao.hd (ho'.trans (congrArg some e)) (by omega) fun h₂ x₂ => wpAny_execs_nil ?_
    exact done B' l' rest' h₂ t' j X (S'.lose x₂)
  · have hlt : i < k := by omega
    refine wpAny_pyNext_range_item (ho'.trans (congrArg some e)) (by omega) fun h₂ i₂ x₂ => ?_
    have S2 := S'.upd (dd' := dRIt ((i : Int) + 1) ((k : Int) - i - 1)) .head nc_rit x₂ ⟨_, i₂, rfl⟩
    refine wpAny_assign_Name (r_store S2 (.tail .head) (fun h₃ t₃ S3 => ?_) hk hx)
    have e1 : ((i + 1 : Nat) : Int) = (i : Int) + 1 := rfl
    have e2 : (k : Int) - ((i + 1 : Nat) : Int) = (k : Int) - i - 1 := by rw [e1]; exact (Int.sub_sub _ _ _).symm
    refine turn i _ B' l' rest' _ h₃ t₃ _ _ hlt j X S3 (fun fl h₅ t₅ B₅ l₅ r₅ e X₅ S₅ j₅ => ?_) (fun _ z => z) (fun _ _ z => z)
    rcases e with rfl | rfl <;> exact ⟨m - 1, by omega, i + 1, h₅, t₅, B₅, l₅, r₅, by omega, rfl, X.trans X₅, by rw [e2, e1]; exact S₅, j₅⟩
end
end

section
variable {w : World} {A : Around} {E : Value → Shared → Prop} {a : Addr} {first : List Value} {e : Expr} {es : List Expr} {env : Env} {pos : Pos} {s : Shared} {Q : Value → Shared → Prop} {id : String}
theorem cwf_cons (q : wpM w A (spliced (backTo pos (starEach (e :: es) env))) (fun vs s₁ => (∃ fd, At s₁.heap a (dFun fd)) ∧ wpM w A (call (.ref a) (first ++ vs) []) Q E s₁) E s)
    (he : starEach (e :: es) env = (false, eval e env) :: starEach es env) : wpM w A (callWith pos (.ref a) first (backTo pos (starEach (e :: es) env)) (backToKw pos (keywordEach [] env))) Q E s :=
  cw_fun (args_cons q he)
theorem cwf_nil (q : (∃ fd, At s.heap a (dFun fd)) ∧ wpM w A (call (.ref a) (first ++ []) []) Q E s) : wpM w A (callWith pos (.ref a) first (backTo pos (starEach [] env)) (backToKw pos (keywordEach [] env))) Q E s :=
  cw_fun (args_nil q)
theorem cwb_cons (q : wpM w A (spliced (backTo pos (starEach (e :: es) env))) (fun vs s₁ => wpM w A (call (.builtin id) (first ++ vs) []) Q E s₁) E s)
    (he : starEach (e :: es) env = (false, eval e env) :: starEach es env) (hp : (backTo pos (starEach es env)).any (·.1) = false) : wpM w A (callWith pos (.builtin id) first (backTo pos (starEach (e :: es) env)) (backToKw pos (keywordEach [] env))) Q E s := by
  refine callWith_builtin ?_ (args_cons q he)
  rw [he]
  show (false || (backTo pos (starEach es env)).any (·.1)) = false
  rw [hp]; rfl
theorem cwt_cons (q : wpM w A (spliced (backTo pos (starEach (e :: es) env))) (fun vs s₁ => wpM w A (call (.type id) (first ++ vs) []) Q E s₁) E s)
    (he : starEach (e :: es) env = (false, eval e env) :: starEach es env) (hp : (backTo pos (starEach es env)).any (·.1) = false) : wpM w A (callWith pos (.type id) first (backTo pos (starEach (e :: es) env)) (backToKw pos (keywordEach [] env))) Q E s := by
  refine PyProof.Rows.callWith_type ?_ (args_cons q he)
  rw [he]
  show (false || (backTo pos (starEach es env)).any (·.1)) = false
  rw [hp]; rfl
end
section
variable {w : World} {A : Around} {E : Value → Shared → Prop} {B h : Heap} {g : Array GenState} {d : Drawn} {t : Nat} {os : OsState} {own own' : Led} {fa : Addr}
variable {cs : Scope} {cn : Str} {cd : Value} {cl : List (Str × Addr)} {L f : Addr} {pos : Pos} {test : Expr} {body : List Stmt} {l : List (Str × Value)} {rest : Led} {Q : Flow → Shared → Prop} {k : Nat}
theorem r_while (J : Nat → Heap → List (Str × Value) → Led → Prop) (S : St w B h (rest ++ [(L, dNs (lk l))])) (j0 : J k B l rest)
    (turn : ∀ m B' l' rest' h' t' E' (Post : Flow → Shared → Prop) (Pe : Shared → Prop), J m B' l' rest' → Ext B B' → St w B' h' (rest' ++ [(L, dNs (lk l'))]) →
      (∀ fl m' h'' t'' B'' l'' rest'', fl = .next ∨ fl = .cont → m' < m → Ext B' B'' → St w B'' h'' (rest'' ++ [(L, dNs (lk l''))]) → J m' B'' l'' rest'' → Post fl ⟨h'', g, d, t'', os⟩) → (∀ s', Q .next s' → Post .brk s') → (∀ v s', Q (.ret v) s' → Post (.ret v) s') → (∀ s', Q .next s' → Pe s') →
      wpM w A (isTrue test (envX cn cs L f cd cl) (eval test (envX cn cs L f cd cl))) (fun b s₂ => if b = true then wpM w A (execs body (envX cn cs L f cd cl)) Post E' s₂ else Pe s₂) E' ⟨h', g, d, t', os⟩) : wpM w A (exec (.While test body [] pos) (envX cn cs L f cd cl)) Q E ⟨h, g, d, t, os⟩ := by
  refine wpAny_While (codeAny_whileLoop (fun m s' => ∃ h' t' B' l' rest', s' = ⟨h', g, d, t', os⟩ ∧ Ext B B' ∧ St w B' h' (rest' ++ [(L, dNs (lk l'))]) ∧ J m B' l' rest') ?_ k ⟨h, t, B, l, rest, rfl, ExtT.refl _ _, S, j0⟩)
  rintro m s' ⟨h', t', B', l', rest', rfl, X, S', j⟩
  refine wpAny_mono (turn m B' l' rest' h' t' _ (fun fl s₃ => match fl with
          | .next | .cont => ∃ m' h'' t'' B'' l'' rest'', m' < m ∧ s₃ = ⟨h'', g, d, t'', os⟩ ∧ Ext B' B'' ∧ St w B'' h'' (rest'' ++ [(L, dNs (lk l''))]) ∧ J m' B'' l'' rest''
          | .brk => Q .next s₃
          | .ret v => Q (.ret v) s₃) (fun s => Q .next s) j X S' (fun fl m' h₅ t₅ B₅ l₅ r₅ e hm X₅ S₅ j₅ => by rcases e with rfl | rfl <;> exact ⟨m', h₅, t₅, B₅, l₅, r₅, hm, rfl, X₅, S₅, j₅⟩) (fun _ z => z) (fun _ _ z => z) (fun _ z => z)) (fun b s₂ z => ?_) fun _ _ e => e
  cases b with
  | false => exact wpAny_execs_nil z
  | true =>
    refine wpAny_mono z (fun fl s₃ z => ?_) fun _ _ e => e
    cases fl with
    | next => obtain ⟨m', h₅, t₅, B₅, l₅, r₅, hm, rfl, X₅, S₅, j₅⟩ := z; exact ⟨m', hm, h₅, t₅, B₅, l₅, r₅, rfl, X.trans X₅, S₅, j₅⟩
    | cont => obtain ⟨m', h₅, t₅, B₅, l₅, r₅, hm, rfl, X₅, S₅, j₅⟩ := z; exact ⟨m', hm, h₅, t₅, B₅, l₅, r₅, rfl, X.trans X₅, S₅, j₅⟩
    | brk => exact z
    | ret v => exact z
theorem o_truthy_fn {Q : Bool → Shared → Prop} {dd : Option Addr} {fd : FuncData} (ho : At h fa (dObj { cls := .type "function", dict := dd, data := .func fd })) (q : Q true ⟨h, g, d, t, os⟩) : wpM w A (truthy (.ref fa)) Q E ⟨h, g, d, t, os⟩ := by
  obtain ⟨o, ho, rfl⟩ := ho
  have hT : (⟨h, g, d, t, os⟩ : Shared).TypeIs (.ref fa) "function" := ⟨_, ho, rfl⟩
  have h1 : typeLookup (.type "function") "__bool__" = pure none := by rw [typeLookup_type, builtinLookup_eq_fast]; kernel_rfl
  have h2 : typeLookup (.type "function") "__len__" = pure none := by rw [typeLookup_type, builtinLookup_eq_fast]; kernel_rfl
  unfold truthy callSpecial?
  refine wpAny_bind (wpAny_bind (wpAny_specialOf hT h1 (wpAny_pure ?_)))
  refine wpAny_bind (m := specialOf _ _) (wpAny_specialOf hT h2 ?_)
  rw [if_pos (by decide)]
  exact wpAny_pure q
theorem St.sublist (S : St w B h own) (hs : own'.Sublist own) : St w B h own' := S.sub (fun _ hp => hs.subset hp) (S.nd.sublist (hs.map _))
theorem fnAt {dd : Option Addr} {fd : FuncData} {sl : Array (Option Value)} {c : Value} (x : At h fa (dObj ⟨c, dd, .func fd, sl⟩)) : At h fa (dFun fd) := let ⟨o, e, r⟩ := x; ⟨o, e, by show o.data = _; rw [r]⟩
theorem St.ntb {dd : Obj → Prop} (S : St w B h own) (m : LMem fa dd own) : fa ∉ Tb := (S.nw _ m.mem).2.2.1
theorem o_truthy_none {Q : Bool → Shared → Prop} {s : Shared} (q : Q false s) : wpM w A (truthy .none) Q E s := fun _ _ _ => q
theorem o_isNot_ref {Q : Value → Shared → Prop} {s : Shared} (q : Q (.bool true) s) : wpM w A (compareOp .IsNot (.ref fa) .none) Q E s := isNot_none q
theorem o_isNot_nn {Q : Value → Shared → Prop} {s : Shared} (q : Q (.bool false) s) : wpM w A (compareOp .IsNot .none .none) Q E s := isNot_none q
theorem o_is_ref {Q : Value → Shared → Prop} {s : Shared} (q : Q (.bool false) s) : wpM w A (compareOp .Is (.ref fa) .none) Q E s := is_none q
theorem o_is_nn {Q : Value → Shared → Prop} {s : Shared} (q : Q (.bool true) s) : wpM w A (compareOp .Is .none .none) Q E s := is_none q
theorem o_is {v : Value} {Q : Value → Shared → Prop} {s : Shared} (q : Q (.bool (v == .none)) s) : wpM w A (compareOp .Is v .none) Q E s := is_none q
theorem o_isNot {v : Value} {Q : Value → Shared → Prop} {s : Shared} (q : Q (.bool (!(v == .none))) s) : wpM w A (compareOp .IsNot v .none) Q E s := isNot_none q
end
local macro_rules | `(tactic| wtm_at "mine w_cw") => `(tactic| first
  | with_reducible refine wpAny_Call_Name_kw ?_
  | ((with_reducible refine' cwf_cons ?_ ?zzhe); (case zzhe => exact rfl))
  | with_reducible refine cwf_nil ?_
  | ((with_reducible refine' cwb_cons ?_ ?zzhe ?zzhp); (case zzhe => exact rfl); (case zzhp => exact rfl))
  | ((with_reducible refine' cwt_cons ?_ ?zzhe ?zzhp); (case zzhe => exact rfl); (case zzhp => exact rfl)))
set_option hygiene false in
local macro_rules | `(tactic| wtm_at "mine w_meth") => `(tactic| first
  | ((with_reducible refine' methodCall_KW ?_ ?zzhe); (case zzhe => exact rfl))
  | ((with_reducible refine' get_method ?zzho ?zzhn ?_); (case zzho => wtm_at "mine kn"); (case zzhn => wtm_at "mine w_tl")))
set_option hygiene false in
local macro_rules | `(tactic| wtm_at "mine w_bi") => `(tactic| first
  | ((refine' o_len ?zzhl ?zzhz ?_); (case zzhl => wtm_at "mine kn"); (case zzhz => assumption); intro t')
  | ((refine' o_range S ?_); clear S; intro a h' t' S)
  | ((refine' o_max2 (AOk.hd (by assumption)) S ?_); clear S; intro h' t' x' S))
local macro_rules | `(tactic| wtm_at "mine w_un") => `(tactic| first | wtm_at "mine w_store" | refine wpAny_assign_Name ?_ | refine o_inOrder ?_ | refine o_inOrder_nil ?_)
local macro_rules | `(tactic| wtm_at "mine w_at") => `(tactic| ((with_reducible refine' Assign_Tuple ?_ ?zzhs ?zzhw); (case zzhs => exact rfl); (case zzhw => exact rfl)))
set_option hygiene false in
local macro_rules | `(tactic| wtm_at "mine w_tr") => `(tactic| first
  | ((with_reducible refine' wpAny_isTrue_value ?_ ?zzhe); (case zzhe => exact rfl))
  | with_reducible refine' o_truthy_none ?_
  | ((with_reducible refine' o_truthy_fn ?zzho ?_); (case zzho => wtm_at "mine kn")))
local macro_rules | `(tactic| wtm_at "mine w_is") => `(tactic| first | with_reducible refine o_isNot_ref ?_ | with_reducible refine o_isNot_nn ?_ | with_reducible refine o_is_ref ?_ | with_reducible refine o_is_nn ?_)
local macro_rules | `(tactic| wtm_at "mine w_slc") => `(tactic| first
  | ((with_reducible refine' sub_slice ?_ ?zzht); (case zzht => (intro _ _; rfl)))
  | ((with_reducible refine' sub_sliceS ?_ ?zzht); (case zzht => (intro _ _; rfl)))
  | with_reducible refine' r_Slice ?_
  | with_reducible refine' part_none ?_
  | with_reducible refine' part_some ?_)
local macro_rules | `(tactic| wtm_at "mine w3") => `(tactic| first | wtm_at "mine w_slc" | wtm_at "mine w2" | wtm_at "mine w_is" | wtm_at "mine w_cw" | wtm_at "mine w_meth" | wtm_at "mine w_tr" | wtm_at "mine w_at")

section
variable {w : World} {A : Around} {E : Value → Shared → Prop} {B h : Heap} {g : Array GenState} {d : Drawn} {t : Nat} {os : OsState} {own own' : Led} {la it : Addr} {xs : List Value} {n u : Nat}
theorem o_iter {Q : Value → Shared → Prop} (S : St w B h own) (hl : At h la (dList xs)) (q : ∀ it h', St w B h' ((it, dLIt la 0) :: own) → Q (.ref it) ⟨h', g, d, t, os⟩) :
    wpM w A (call (.builtin "iter") [.ref la] []) Q E ⟨h, g, d, t, os⟩ := by
  refine call_function_entry (by decide +kernel) (by decide +kernel) kdk_entry_iter (kdk_args_iter _) ?_
  unfold Builtin.«iter»
  refine wpAny_bind (m := someArgs "iter" 1 2 _) (wpAny_of_eq (a := [Value.ref la]) (by first | rfl | kernel_rfl!) ?_)
  show wpAny _ _ (pyIter (.ref la) >>= _) _ _ _
  refine wpAny_bind (wpAny_pyIter_list hl.list ?_)
  exact wpAny_pure ⟨_, rfl, q _ _ (S.alloc (dd := dLIt la 0) ⟨rfl, rfl⟩ nc_lit rfl)⟩
theorem o_next {Q : Value → Shared → Prop} {i : Nat} {x : Value} (S : St w B h own) (u : LUp it (dLIt la i) (dLIt la (i + 1)) own own') (hl : At h la (dList xs)) (hx : xs[i]? = some x) (q : ∀ h', St w B h' own' → Q x ⟨h', g, d, t, os⟩) :
    wpM w A (call (.builtin "next") [.ref it] []) Q E ⟨h, g, d, t, os⟩ := by
  have hit := ((S.nw _ u.mem).1).lit
  have ho := hit
  obtain ⟨o, ho, hc, hd⟩ := ho
  have hl' := hl.list
  obtain ⟨ol, hol, _, nl, hdl⟩ := hl'
  refine call_function_entry (by decide +kernel) (by decide +kernel) kdk_entry_next (kdk_args_next _) ?_
  unfold Builtin.«next»
  refine wpAny_bind (m := someArgs "next" 1 2 _) (wpAny_of_eq (a := [Value.ref it]) (by first | rfl | kernel_rfl!) ?_)
  dsimp only
  refine wpAny_bind (wpAny_specialOf (name := Str.ofString "__next__") hit.typeIs slot_listiter_next.lookup ?_)
  refine wpAny_ite_split (fun hab => absurd hab (by decide)) (fun _ => ?_)
  refine wpAny_bind (wpAny_callSpecial?_slot (name := Str.ofString "__next__") hit.typeIs slot_listiter_next
    (wpAny_call_entry slot_listiter_next hit.typeIs entry_listiter_next ?_ (args_listiter_next _)))
  show wpAny _ _ (field (.ref it) 0 >>= _) _ _ _
  refine wpAny_bind (wpAny_field ho hd (x := .ref la) rfl ?_)
  show wpAny _ _ (if (Value.ref la == Value.none) = true then _ else _) _ _ _
  rw [if_neg (show ¬ ((Value.ref la == Value.none) = true) from Bool.false_ne_true)]
  show wpAny _ _ (field (.ref it) 1 >>= _) _ _ _
  refine wpAny_bind (wpAny_field ho hd (x := .int i 0) rfl ?_)
  show wpAny _ _ (seqItems? (.ref la) >>= _) _ _ _
  refine wpAny_bind (wpAny_seqItems hol hdl ?_)
  have hx' : xs.toArray[i]? = some x := by simpa using hx
  simp only [Int.toNat_natCast, hx']
  refine wpAny_bind (wpAny_setField ho hd (by simp) (wpAny_pure ⟨x, rfl, ?_⟩))
  refine wpAny_pure ⟨x, rfl, q _ (S.upd u nc_lit (Heap.SameBut.update ..) ⟨_, Heap.get?_update_self _ ho (Obj.isFreed_of_fields (Obj.data_mapFields hd _)), (Obj.cls_mapFields ..).trans hc, ?_⟩)⟩
  rw [Obj.data_mapFields hd]; simp [rawInt]
theorem o_isSelf {Q : Value → Shared → Prop} (q : Q (.bool true) ⟨h, g, d, t, os⟩) : wpM w A (compareOp .Is (.ref la) (.ref la)) Q E ⟨h, g, d, t, os⟩ := wpAny_is_ref_self q
theorem o_isOther {Q : Value → Shared → Prop} {y : Addr} {ox oy : Obj} (hne : la ≠ y) (hx : h.get? la = some ox) (hy : h.get? y = some oy) (hnt : ox.cls ≠ .type "tuple") (q : Q (.bool false) ⟨h, g, d, t, os⟩) : wpM w A (compareOp .Is (.ref la) (.ref y)) Q E ⟨h, g, d, t, os⟩ := by
  show wpAny _ _ (do return .bool (← isSame (.ref la) (.ref y))) Q E _
  exact wpAny_bind (wpAny_isSame_ref_other hne hx hy hnt (wpAny_pure q))
theorem for_iter {cs : Scope} {cn : Str} {cd : Value} {cl : List (Str × Addr)} {L f : Addr} {x : Str} {px pos : Pos} {iter : Expr} {body : List Stmt} {l : List (Str × Value)} {rest : Led} {Q : Flow → Shared → Prop} {i₀ : Nat}
    (J : Nat → Heap → List (Str × Value) → Led → Prop) (a : AOk A n u) (S : St w B h ((L, dNs (lk l)) :: (it, dLIt la i₀) :: rest)) (hla : At B la (dList xs)) (hT : la ∉ Tb) (hi₀ : i₀ ≤ xs.length) (j0 : J i₀ B l rest)
    (hiter : ∀ Q' : Value → Shared → Prop, Q' (.ref it) ⟨h, g, d, t, os⟩ → wpM w A (eval iter (envX cn cs L f cd cl)) Q' E ⟨h, g, d, t, os⟩)
    (turn : ∀ i v B' l' rest' h' t' E' (Post : Flow → Shared → Prop), xs[i]? = some v → J i B' l' rest' → Ext B B' → St w B' h' ((L, dNs (lk (setL x v l'))) :: (it, dLIt la (i + 1)) :: rest') →
      (∀ fl h'' t'' B'' l'' rest'', fl = .next ∨ fl = .cont → Ext B' B'' → St w B'' h'' ((L, dNs (lk l'')) :: (it, dLIt la (i + 1)) :: rest'') → J (i + 1) B'' l'' rest'' → Post fl ⟨h'', g, d, t'', os⟩) → (∀ s', Q .next s' → Post .brk s') → (∀ v s', Q (.ret v) s' → Post (.ret v) s') →
      wpM w A (execs body (envX cn cs L f cd cl)) Post E' ⟨h', g, d, t', os⟩)
    (done : ∀ B' l' rest' h' t', J xs.length B' l' rest' → Ext B B' → St w B' h' ((L, dNs (lk l')) :: rest') → Q .next ⟨h', g, d, t', os⟩)
    (hs : ∀ v, foldedSetIterable iter (envX cn cs L f cd cl) v = pure v := by intro _; rfl)
    (hk : cs.kind = .function := by rfl) (hx : (envX cn cs L f cd cl).kindOf x = some .local := by rfl) :
    wpM w A (exec (.For (.Name x px) iter body [] pos) (envX cn cs L f cd cl)) Q E ⟨h, g, d, t, os⟩ := by
  refine wpAny_For (hiter _ ?_) hs
  refine wpAny_pyIter_listiter (S.mem (.tail .head)).lit ?_
  refine codeAny_forLoop (fun k s' => ∃ i h' t' B' l' rest', k + i = xs.length ∧ s' = ⟨h', g, d, t', os⟩ ∧ Ext B B' ∧ St w B' h' ((L, dNs (lk l')) :: (it, dLIt la i) :: rest') ∧ J i B' l' rest') ?_ (xs.length - i₀)
    ⟨i₀, _, _, B, l, rest, by omega, rfl, ExtT.refl _ _, S, j0⟩
  rintro k s' ⟨i, h', t', B', l', rest', hki, rfl, X, S', j⟩
  have hl' : At h' la (dList xs) := (hla.ext X hT).ext S'.keep hT
  cases hv : xs[i]? with
  | none =>
    have hi : i = xs.length := by have := List.getElem?_eq_none_iff.mp hv; omega
    subst hi
    refine wpAny_pyNext_list_end (items := xs.toArray) a.hd (S'.mem (.tail .head)).lit hl'.list (by simpa using hv) fun h₂ x₂ => wpAny_execs_nil ?_
    have S'' : St w B' h' ((it, dLIt la xs.length) :: (L, dNs (lk l')) :: rest') := S'.sub (fun p hp => by
      cases hp with
      | head => exact .tail _ (.head _)
      | tail _ hp => cases hp with
        | head => exact .head _
        | tail _ hp => exact .tail _ (.tail _ hp)) (by
      have := S'.nd
      simp only [List.map_cons, List.nodup_cons, List.mem_cons, not_or] at this ⊢
      exact ⟨⟨fun e => this.1.1 e.symm, this.2.1⟩, this.1.2, this.2.2⟩)
    exact done B' l' rest' h₂ t' j X (S''.lose x₂)
  | some v =>
    refine wpAny_pyNext_list_item (items := xs.toArray) (S'.mem (.tail .head)).lit hl'.list (by simpa using hv) fun h₂ i₂ x₂ => ?_
    have S2 := S'.upd (dd' := dLIt la (i + 1)) (.tail .head) nc_lit x₂ i₂
    refine wpAny_assign_Name (r_store S2 .head (fun h₃ t₃ S3 => ?_) hk hx)
    have hlt : i < xs.length := (List.getElem?_eq_some_iff.mp hv).1
    refine turn i v B' l' rest' h₃ t₃ _ _ hv j X S3 (fun fl h₅ t₅ B₅ l₅ r₅ e X₅ S₅ j₅ => ?_) (fun _ z => z) (fun _ _ z => z)
    rcases e with rfl | rfl <;> exact ⟨k - 1, by omega, i + 1, h₅, t₅, B₅, l₅, r₅, by omega, rfl, X.trans X₅, S₅, j₅⟩
end
theorem St.rot {w : World} {B h : Heap} {p q : Addr × (Obj → Prop)} {new rest : Led} (S : St w B h (new ++ p :: q :: rest)) : St w B h (p :: q :: new) := by
  refine S.sub (fun x hx => ?_) ?_
  · rcases List.mem_cons.mp hx with rfl | hx
    · exact List.mem_append_right _ (.head _)
    · rcases List.mem_cons.mp hx with rfl | hx
      · exact List.mem_append_right _ (.tail _ (.head _))
      · exact List.mem_append_left _ hx
  · have nd := S.nd
    simp only [List.map_append, List.map_cons, List.nodup_append, List.nodup_cons, List.mem_cons, not_or] at nd ⊢
    obtain ⟨a, ⟨⟨b1, b2⟩, b3, b4⟩, c⟩ := nd
    exact ⟨⟨b1, fun hm => c _ hm _ (.inl rfl) rfl⟩, fun hm => c _ hm _ (.inr (.inl rfl)) rfl, a⟩
theorem St.swap {w : World} {B h : Heap} {p q : Addr × (Obj → Prop)} {rest : Led} (S : St w B h (p :: q :: rest)) : St w B h (q :: p :: rest) := by
  refine S.sub (fun x hx => ?_) ?_
  · rcases List.mem_cons.mp hx with rfl | hx
    · exact .tail _ (.head _)
    · rcases List.mem_cons.mp hx with rfl | hx
      · exact .head _
      · exact .tail _ (.tail _ hx)
  · have nd := S.nd
    simp only [List.map_cons, List.nodup_cons, List.mem_cons, not_or] at nd ⊢
    exact ⟨⟨fun e => nd.1.1 e.symm, nd.2.1⟩, nd.1.2, nd.2.2⟩
section
variable {w : World} {A : Around} {E : Value → Shared → Prop} {h : Heap} {g : Array GenState} {d : Drawn} {t : Nat} {os : OsState} {la : Addr} {xs : List Value}
theorem get_append {pl : Sem Bool} {Q : Value × List Value → Shared → Prop} (hl : At h la (dList xs)) (q : Q (.builtin "list.append", [.ref la]) ⟨h, g, d, t, os⟩) : wpM w A (getMethod (.ref la) "append" pl) Q E ⟨h, g, d, t, os⟩ := by
  obtain ⟨o, ho, n, rfl⟩ := hl
  exact Calls.getMethod_list_append ho rfl rfl q
end
set_option hygiene false in
local macro_rules | `(tactic| wtm_at "mine w_app") => `(tactic| first
  | ((with_reducible refine' wpAny_Expr_any ?_ ?zzhi ?zzhs); (case zzhi => exact rfl); (case zzhs => exact rfl))
  | ((with_reducible refine' get_append ?zzho ?_); (case zzho => wtm_at "mine kn")))
local macro_rules | `(tactic| wtm_at "mine w4") => `(tactic| first | wtm_at "mine w3" | wtm_at "mine w_app")

section
variable {w : World} {A : Around} {E : Value → Shared → Prop} {B h : Heap} {g : Array GenState} {d : Drawn} {t : Nat} {os : OsState} {own own' : Led} {a L C : Addr}
variable {cn : Str} {cs sc : Scope} {cd : Value} {cl cl₀ : List (Str × Addr)} {x : Str} {pos : Pos} {v : Value} {l : List (Str × Value)} {c f : Addr} {Q : Value → Shared → Prop}
abbrev envK (sc : Scope) (cl : List (Str × Addr)) (C : Addr) (cn : Str) (cs : Scope) (L f : Addr) (cd : Value) (cl₀ : List (Str × Addr)) : Env := compEnvC sc cl C (envX cn cs L f cd cl₀)
theorem rk_local (S : St w B h own) (hm : LMem C (dNs (lk l)) own) (hv : lk l x = some v) (q : Q v ⟨h, g, d, t, os⟩)
    (hk : sc.kind = .function := by rfl) (hx : (envK sc cl C cn cs L f cd cl₀).kindOf x = some .local := by rfl) (hb : (x == ("__debug__" : Str)) = false := by decide) :
    wpM w A (eval (.Name x pos) (envK sc cl C cn cs L f cd cl₀)) Q E ⟨h, g, d, t, os⟩ := wpAny_Name (wpAny_loadName_local hk hx (S.mem hm).ns hv q) hb
theorem rk_cell (hc : cl.lookup x = some c) (hm : At h c (dCell (some v))) (q : Q v ⟨h, g, d, t, os⟩)
    (hk : sc.kind = .function := by rfl) (hx : (envK sc cl C cn cs L f cd cl₀).kindOf x = some .cell := by rfl) (hb : (x == ("__debug__" : Str)) = false := by decide) :
    wpM w A (eval (.Name x pos) (envK sc cl C cn cs L f cd cl₀)) Q E ⟨h, g, d, t, os⟩ := wpAny_Name (wpAny_loadName_cell hk hx hc hm.cell q) hb
theorem rk_glob (S : St w B h own) (hv : gl w.params x = some v) (q : Q v ⟨h, g, d, t, os⟩)
    (hk : sc.kind = .function := by rfl) (hx : (envK sc cl C cn cs L f cd cl₀).kindOf x = some .globalImplicit := by rfl) (hb : (x == ("__debug__" : Str)) = false := by decide) :
    wpM w A (eval (.Name x pos) (envK sc cl C cn cs L f cd cl₀)) Q E ⟨h, g, d, t, os⟩ := Name_function_global hk hx (loadGlobal_global (env := envK sc cl C cn cs L f cd cl₀) (gl_ns S.kinh) hv q) hb
theorem rk_store {Q : Unit → Shared → Prop} (S : St w B h own) (u : LUp C (dNs (lk l)) (dNs (lk (setL x v l))) own own') (q : ∀ h' t', St w B h' own' → Q () ⟨h', g, d, t', os⟩)
    (hk : sc.kind = .function := by rfl) (hx : (envK sc cl C cn cs L f cd cl₀).kindOf x = some .local := by rfl) : wpM w A (storeName (envK sc cl C cn cs L f cd cl₀) x v) Q E ⟨h, g, d, t, os⟩ :=
  wpAny_storeName_local hx ((S.nw _ u.mem).1).ns (fun h' hn hs => q h' _ (S.upd u nc_ns hs (At.of_ns (by rw [lk_setL]; exact hn))))
    (by show (sc.kind == .class || (sc.kind == .module && C != mainGlobals)) = false; rw [hk]; rfl)
end
set_option hygiene false in
local macro_rules | `(tactic| wtm_at "mine k_name") => `(tactic| first
  | ((with_reducible refine' rk_local S ?zzm ?zzv ?_ ?zzk ?zzx ?zzb); (case zzk => exact rfl); (case zzx => exact rfl); (case zzb => decide); (case zzm => wtm_at "mine m_lm"); (case zzv => wtm_at "mine w_lk"))
  | ((with_reducible refine' rk_cell ?zzc ?zzm ?_ ?zzk ?zzx ?zzb); (case zzk => exact rfl); (case zzx => exact rfl); (case zzb => decide); (case zzc => exact rfl); (case zzm => wtm_at "mine kn"))
  | ((with_reducible refine' rk_glob S ?zzv ?_ ?zzk ?zzx ?zzb); (case zzv => wtm_at "mine m_gl"); (case zzk => exact rfl); (case zzx => exact rfl); (case zzb => decide)))
set_option hygiene false in
local macro_rules | `(tactic| wtm_at "mine k_store") => `(tactic| 
  ((with_reducible refine' rk_store S ?zzu ?_ ?zzk ?zzx); (case zzk => exact rfl); (case zzx => exact rfl); (case zzu => wtm_at "mine m_lu"); clear S; intro h' t' S))
local macro_rules | `(tactic| wtm_at "mine w5") => `(tactic| first | wtm_at "mine w4" | wtm_at "mine k_name" | wtm_at "mine k_store" | refine wpAny_tests_nil ?_ | refine wpAny_tests_one ?_)
section
variable {w : World} {A : Around} {E : Value → Shared → Prop} {B h : Heap} {g : Array GenState} {d : Drawn} {t : Nat} {os : OsState} {own own' : Led} {a L la it : Addr} {xs : List Value} {n u : Nat}
theorem codeAny_compLoop_testsP {elt iter : Expr} {elts : List Expr} {x1 : Nat} {tp : Pos} {ifs : List Expr} {scope : Scope} {pos : Pos} {it acc : Value} {env : Env} {R : Result → Shared → Prop} {s : Shared} (I : Nat → Shared → Prop)
    (turn : ∀ n s, I n s → wpM w A (pyNext it) (fun r s₁ => match r with
      | none => R (.ok .next) s₁
      | some v => wpM w A (letOwnedTupleGo (.Tuple elts x1 tp) it v) (fun _ s₁ => wpM w A (assign (.Tuple elts x1 tp) env v) (fun _ s₂ =>
          wpM w A (forIn ifs true fun c r => if r = true then do let ok ← isTrue c env (eval c env); pure (ForInStep.yield ok) else pure (ForInStep.yield r)) (fun ok s₃ =>
            if ok = true then wpM w A (eval elt env) (fun x s₄ =>
              wpM w A (call (.builtin "list.append") [acc, x]) (fun _ s₅ => ∃ m, m < n ∧ I m s₅) (notedBy (model Pr w) A env fun e s' => R (.error e) s') s₄) (notedBy (model Pr w) A env fun e s' => R (.error e) s') s₃
            else ∃ m, m < n ∧ I m s₃) (notedBy (model Pr w) A env fun e s' => R (.error e) s') s₂) (notedBy (model Pr w) A env fun e s' => R (.error e) s') s₁) (notedBy (model Pr w) A env fun e s' => R (.error e) s') s₁) (notedBy (model Pr w) A env fun e s' => R (.error e) s') s)
    (n : Nat) (h : I n s) :
    codeAny (model Pr w) A (.compLoop (.ListComp elt [⟨.Tuple elts x1 tp, iter, ifs, 0⟩] scope pos) 0 it acc env) R s := by
  refine codeAny_loop rfl I (fun n s hI => ?_) n h
  show wpAny _ A ((compTurn (.ListComp elt [⟨.Tuple elts x1 tp, iter, ifs, 0⟩] scope pos) 0 it acc env).onRaise (fun x => do noteFrame x env; theTreesLotGoes x)) _ _ s
  refine wpAny_noted ?_
  rw [compTurn_list]
  refine wpAny_bind (wpAny_standAt (wpAny_bind (wpAny_mono (turn n s hI) (fun r s₁ h₁ => ?_) fun _ _ h' => h')))
  cases r with
  | none => exact wpAny_pure h₁
  | some v =>
    refine wpAny_bind (wpAny_mono h₁ (fun _ s₁ h₁ => ?_) fun _ _ h' => h')
    refine wpAny_bind (wpAny_mono h₁ (fun _ s₂ h₂ => wpAny_bind (wpAny_mono h₂ (fun ok s₃ h₃ => ?_) fun _ _ h' => h')) fun _ _ h' => h')
    cases ok with
    | false => exact wpAny_pure ⟨rfl, h₃⟩
    | true =>
      exact wpAny_bind (wpAny_bind (wpAny_mono h₃ (fun x s₄ h₄ => wpAny_bind (wpAny_mono h₄ (fun _ s₅ h₅ => wpAny_pure (wpAny_pure ⟨rfl, h₅⟩)) fun _ _ h' => h')) fun _ _ h' => h'))
theorem St.perm (S : St w B h own) (p : own.Perm own') : St w B h own' :=
  S.sub (fun _ hx => p.mem_iff.mpr hx) ((p.map (·.1)).nodup_iff.mp S.nd)
theorem St.newAt {dd : Obj → Prop} {h₁ : Heap} (S : St w B h own) (hk : ∀ b o, h.get? b = some o → h₁.get? b = some o) (hd : At h₁ h.objs.size dd) (nc : NoCode dd) : St w B h₁ ((h.objs.size, dd) :: own) := by
  obtain ⟨f1, f2, f3⟩ := S.fresh
  have S1 := S.keeps hk
  refine ⟨S1.keep, fun p hp => ?_, ?_, S1.tb, S1.kin⟩
  · rcases List.mem_cons.mp hp with rfl | hp
    · exact ⟨hd, f1, f2, nc⟩
    · exact S1.nw p hp
  · rw [List.map_cons, List.nodup_cons]
    exact ⟨f3, S.nd⟩
variable {cn : Str} {cs sc : Scope} {cd : Value} {cl cl₀ : List (Str × Addr)} {f : Addr}
theorem comp_core {elt iter : Expr} {elts : List Expr} {x1 : Nat} {tp pos : Pos} {ifs : List Expr} {RR : Value → Addr → Result → Shared → Prop} (J : Nat → List Value → Heap → Prop) (ha : A.handled = none) (S : St w B h own) (hla : At B la (dList xs)) (hT : la ∉ Tb) (hr : ∀ (i : Nat) v, xs[i]? = some v → ∃ T, v = .ref T) (j0 : J 0 [] B)
    (turn : ∀ i v ys B' l' D C it h' t' E', xs[i]? = some v → J i ys B' → Ext B B' → St w B' h' ((C, dNs (lk l')) :: (D, dList ys) :: (it, dLIt la (i + 1)) :: own) →
      wpM w A (assign (.Tuple elts x1 tp) (envK sc cl C cn cs L f cd cl₀) v) (fun _ s₂ =>
        wpM w A (forIn ifs true fun c r => if r = true then do let ok ← isTrue c (envK sc cl C cn cs L f cd cl₀) (eval c (envK sc cl C cn cs L f cd cl₀)); pure (ForInStep.yield ok) else pure (ForInStep.yield r)) (fun ok s₃ =>
          if ok = true then wpM w A (eval elt (envK sc cl C cn cs L f cd cl₀)) (fun y s₄ => ∃ h'' t'' B'' l'', s₄ = ⟨h'', g, d, t'', os⟩ ∧ Ext B' B'' ∧ St w B'' h'' ((C, dNs (lk l'')) :: (D, dList ys) :: (it, dLIt la (i + 1)) :: own) ∧ ys.length ≤ sizeLine ∧ J (i + 1) (ys ++ [y]) B'') E' s₃
          else ∃ h'' t'' B'' l'', s₃ = ⟨h'', g, d, t'', os⟩ ∧ Ext B' B'' ∧ St w B'' h'' ((C, dNs (lk l'')) :: (D, dList ys) :: (it, dLIt la (i + 1)) :: own) ∧ J (i + 1) ys B'') E' s₂) E' ⟨h', g, d, t', os⟩)
    (done : ∀ ys B' l' D C h' t', J xs.length ys B' → Ext B B' → St w B' h' ((C, dNs (lk l')) :: (D, dList ys) :: own) → RR (.ref D) C (.ok .next) ⟨h', g, d, t', os⟩)
    (hcell : ∀ y ∈ sc.names, y.2 ≠ .cell) (hkind : sc.kind = .function) :
    wpM w A (pyIter (.ref la)) (fun it s₂ => wpM w A (newList []) (fun acc s₃ => wpM w A (newFunctionEnv sc (envX cn cs L f cd cl₀).globals cl [] (envX cn cs L f cd cl₀).qual none .none (some (envX cn cs L f cd cl₀))) (fun cenv s₄ =>
      codeAny (model Pr w) A (.compStart (.ListComp elt [⟨.Tuple elts x1 tp, iter, ifs, 0⟩] sc pos) 0 it acc { cenv with scope := relabel sc (envX cn cs L f cd cl₀) }) (RR acc cenv.locals) s₄) E s₃) E s₂) E ⟨h, g, d, t, os⟩ := by
  refine wpAny_pyIter_list (S.old hla hT).list ?_
  have S1 : St w B (h.push { cls := .type "list_iterator", data := .fields #[.ref la, .int 0 0] }) ((h.objs.size, dLIt la 0) :: own) := S.alloc (dd := dLIt la 0) ⟨rfl, rfl⟩ nc_lit rfl
  generalize h.push { cls := .type "list_iterator", data := .fields #[.ref la, .int 0 0] } = h1 at S1 ⊢
  refine wpAny_newObj_type (wpAny_newFunctionEnv hcell (by intro y hy; simp at hy) (fun h₂ hns₂ hsb₂ => ?_) hkind)
  dsimp only at hns₂ hsb₂ ⊢
  have S2 : St w B (h1.push { cls := .type "list", dict := none, data := .seq ([] : List Value).toArray }) ((h1.objs.size, dList []) :: (h.objs.size, dLIt la 0) :: own) := S1.alloc (dd := dList []) ⟨0, rfl⟩ nc_list rfl
  generalize h1.push { cls := .type "list", dict := none, data := .seq ([] : List Value).toArray } = h2 at S2 hns₂ hsb₂ ⊢
  have S3 := S2.newAt (dd := dNs (lk [])) (h₁ := h₂) (fun b o e => hsb₂.extBut b o (Nat.ne_of_lt (Heap.lt_size e)) (Heap.get?_push_of_some _ e)) (At.of_ns hns₂) nc_ns
  generalize h2.objs.size = C at S3 ⊢
  generalize h1.objs.size = D at S3 ⊢
  generalize h.objs.size = it at S3 ⊢
  have loop : ∀ s₃ : Shared, (∃ tk, s₃ = ⟨h₂, g, d, tk, os⟩) →
      codeAny (model Pr w) A (.compLoop (.ListComp elt [⟨.Tuple elts x1 tp, iter, ifs, 0⟩] sc pos) 0 (.ref it) (.ref D) (envK sc cl C cn cs L f cd cl₀)) (RR (.ref D) C) s₃ := by
    rintro s₃ ⟨tk, rfl⟩
    refine codeAny_compLoop_testsP (fun k s' => ∃ i h' t' B' l' ys, k + i = xs.length ∧ s' = ⟨h', g, d, t', os⟩ ∧ Ext B B' ∧ St w B' h' ((C, dNs (lk l')) :: (D, dList ys) :: (it, dLIt la i) :: own) ∧ J i ys B') ?_ xs.length
      ⟨0, _, _, B, [], [], rfl, rfl, ExtT.refl _ _, S3, j0⟩
    rintro k s' ⟨i, h', t', B', l', ys, hki, rfl, X, S', j⟩
    have hl' : At h' la (dList xs) := (hla.ext X hT).ext S'.keep hT
    cases hv : xs[i]? with
    | none =>
      have hi : i = xs.length := by have := List.getElem?_eq_none_iff.mp hv; omega
      subst hi
      refine wpAny_pyNext_list_end (items := xs.toArray) ha (S'.mem (.tail (.tail .head))).lit hl'.list (by simpa using hv) fun h₃ x₃ => ?_
      have S4 := S'.perm (List.perm_middle (l₁ := [_, _]))
      exact done ys B' l' D C h₃ t' j X (S4.lose x₃)
    | some v =>
      have hlt : i < xs.length := (List.getElem?_eq_some_iff.mp hv).1
      refine wpAny_pyNext_list_item (items := xs.toArray) (S'.mem (.tail (.tail .head))).lit hl'.list (by simpa using hv) fun h₃ i₃ x₃ => ?_
      have S4 := S'.upd (dd' := dLIt la (i + 1)) (.tail (.tail .head)) nc_lit x₃ i₃
      obtain ⟨T0, rfl⟩ := hr i v hv
      refine wpAny_letOwnedTupleGo_listiter (s := ⟨h₃, g, d, t', os⟩) (S4.mem (.tail (.tail .head))).lit ?_
      refine wpAny_mono (turn i _ ys B' l' D C it h₃ t' _ hv j X S4) (fun _ s₄ z => ?_) fun _ _ e => e
      refine wpAny_mono z (fun ok s₅ z => ?_) fun _ _ e => e
      cases ok with
      | false =>
        obtain ⟨h5, t5, B5, l5, rfl, X5, S5, j5⟩ := z
        exact ⟨k - 1, by omega, i + 1, h5, t5, B5, l5, ys, by omega, rfl, X.trans X5, S5, j5⟩
      | true =>
        refine wpAny_mono z (fun y s₆ z => ?_) fun _ _ e => e
        obtain ⟨h5, t5, B5, l5, rfl, X5, S5, hz, j5⟩ := z
        refine o_append S5 (.tail .head) hz fun h6 S6 => ?_
        exact ⟨k - 1, by omega, i + 1, h6, t5, B5, l5, _, by omega, rfl, X.trans X5, S6, j5⟩
  refine codeAny_compStart_list (loop _ ⟨_, rfl⟩) (wpAny_pyIter_listiter (S3.mem (.tail (.tail .head))).lit (loop _ ⟨_, rfl⟩))
end

section
variable {w : World} {A : Around} {E : Value → Shared → Prop} {B h : Heap} {g : Array GenState} {d : Drawn} {t : Nat} {os : OsState} {own own' : Led} {a L la it : Addr} {xs : List Value} {n u : Nat}
variable {cn : Str} {cs sc : Scope} {cd : Value} {cl cl₀ : List (Str × Addr)} {f : Addr}
theorem o_maxL {vs : List Value} {ns : List Int} {Q : Value → Shared → Prop} (hh : A.handled = none) (S : St w B h own) (hl : h.IsList la vs.toArray) (hi : IntsAre vs ns) (hne : 0 < ns.length)
    (q : ∀ h' t' M tk, St w B h' own → M ∈ ns → (∀ a, a ∈ ns → a ≤ M) → Q (.int M tk) ⟨h', g, d, t', os⟩) : wpM w A (call (.builtin "max") [.ref la] []) Q E ⟨h, g, d, t, os⟩ := by
  obtain ⟨xs, e⟩ := hi.allInts.items
  have hns : ns = xs.toList.map (·.1) := by
    rw [← hi.numsOf, ← nums_intItems, ← e]
  have hsz : 0 < xs.size := by
    have h3 := hne; rw [hns, List.length_map, Array.length_toList] at h3; exact h3
  rw [e] at hl
  refine max_intList hh hl hsz fun v h' tk hv hk => ?_
  obtain ⟨t, rfl⟩ := intItems_at hv
  obtain ⟨h1, h2⟩ := argBest_gt (numAt xs) (xs.size - 1)
  refine q _ tk _ t (S.keeps hk) ?_ fun a ha => ?_
  · rw [hns, numAt_eq]; exact getD_mem (by rw [List.length_map, Array.length_toList]; omega)
  · rw [hns] at ha
    obtain ⟨j, hj, rfl⟩ := mem_getD ha
    rw [List.length_map, Array.length_toList] at hj
    rw [← numAt_eq]; exact h2 j (by omega)
/-- [elt for a, b in xs if test], the value -/
theorem r_ListComp {elt iter : Expr} {elts : List Expr} {x1 : Nat} {tp pos : Pos} {ifs : List Expr} {Q : Value → Shared → Prop} (J : Nat → List Value → Heap → Prop) (ha : A.handled = none) (S : St w B h own) (hla : At B la (dList xs)) (hT : la ∉ Tb) (hr : ∀ (i : Nat) v, xs[i]? = some v → ∃ T, v = .ref T) (j0 : J 0 [] B)
    (hiter : ∀ Q' : Value → Shared → Prop, Q' (.ref la) ⟨h, g, d, t, os⟩ → wpM w A (eval iter (envX cn cs L f cd cl₀)) Q' E ⟨h, g, d, t, os⟩)
    (turn : ∀ i v ys B' l' D C it h' t' E', xs[i]? = some v → J i ys B' → Ext B B' → St w B' h' ((C, dNs (lk l')) :: (D, dList ys) :: (it, dLIt la (i + 1)) :: own) →
      wpM w A (assign (.Tuple elts x1 tp) (envK sc cl C cn cs L f cd cl₀) v) (fun _ s₂ =>
        wpM w A (forIn ifs true fun c r => if r = true then do let ok ← isTrue c (envK sc cl C cn cs L f cd cl₀) (eval c (envK sc cl C cn cs L f cd cl₀)); pure (ForInStep.yield ok) else pure (ForInStep.yield r)) (fun ok s₃ =>
          if ok = true then wpM w A (eval elt (envK sc cl C cn cs L f cd cl₀)) (fun y s₄ => ∃ h'' t'' B'' l'', s₄ = ⟨h'', g, d, t'', os⟩ ∧ Ext B' B'' ∧ St w B'' h'' ((C, dNs (lk l'')) :: (D, dList ys) :: (it, dLIt la (i + 1)) :: own) ∧ ys.length ≤ sizeLine ∧ J (i + 1) (ys ++ [y]) B'') E' s₃
          else ∃ h'' t'' B'' l'', s₃ = ⟨h'', g, d, t'', os⟩ ∧ Ext B' B'' ∧ St w B'' h'' ((C, dNs (lk l'')) :: (D, dList ys) :: (it, dLIt la (i + 1)) :: own) ∧ J (i + 1) ys B'') E' s₂) E' ⟨h', g, d, t', os⟩)
    (done : ∀ ys B' D h' t', J xs.length ys B' → Ext B B' → St w B' h' ((D, dList ys) :: own) → Q (.ref D) ⟨h', g, d, t', os⟩)
    (hclos : closureFor sc (envX cn cs L f cd cl₀) = pure cl) (hs : ∀ x, foldedSetIterable iter (envX cn cs L f cd cl₀) x = pure x) (hcell : (sc.names.all fun y => y.2 != .cell) = true) (hkind : sc.kind = .function)
    (hnames : (sc.names.all fun y => y.2 != .local || decide (sc.names.lookup y.1 = some .local)) = true) :
    wpM w A (eval (.ListComp elt [⟨.Tuple elts x1 tp, iter, ifs, 0⟩] sc pos) (envX cn cs L f cd cl₀)) Q E ⟨h, g, d, t, os⟩ := by
  rw [eval_ListComp]
  refine wpAny_comprehension_free (use := none) rfl hs hclos hkind (fun y hy hl => ?_) (hiter _ ?_)
  · have := List.all_eq_true.mp hnames y hy
    simpa [hl] using this
  · refine comp_core (RR := fun acc C => compPost (model Pr w) A E none Q acc C) J ha S hla hT hr j0 turn (fun ys B' l' D C h' t' j X S' => ?_) (fun y hy => ?_) hkind
    · exact ⟨_, (S'.mem .head).ns, fun h'' hs'' => done ys B' D h'' t' j X (S'.lose hs''.extBut)⟩
    · have := List.all_eq_true.mp hcell y hy
      simpa using this
/-- x = [elt for a, b in xs if test] -/
theorem r_AssignComp {elt iter : Expr} {elts : List Expr} {x1 : Nat} {tp pos spos py : Pos} {ifs : List Expr} {y : Str} {Q : Flow → Shared → Prop} (J : Nat → List Value → Heap → Prop) (ha : A.handled = none) (S : St w B h own) (hla : At B la (dList xs)) (hT : la ∉ Tb) (hr : ∀ (i : Nat) v, xs[i]? = some v → ∃ T, v = .ref T) (j0 : J 0 [] B)
    (hiter : ∀ Q' : Value → Shared → Prop, Q' (.ref la) ⟨h, g, d, t, os⟩ → wpM w A (eval iter (envX cn cs L f cd cl₀)) Q' E ⟨h, g, d, t, os⟩)
    (turn : ∀ i v ys B' l' D C it h' t' E', xs[i]? = some v → J i ys B' → Ext B B' → St w B' h' ((C, dNs (lk l')) :: (D, dList ys) :: (it, dLIt la (i + 1)) :: own) →
      wpM w A (assign (.Tuple elts x1 tp) (envK sc cl C cn cs L f cd cl₀) v) (fun _ s₂ =>
        wpM w A (forIn ifs true fun c r => if r = true then do let ok ← isTrue c (envK sc cl C cn cs L f cd cl₀) (eval c (envK sc cl C cn cs L f cd cl₀)); pure (ForInStep.yield ok) else pure (ForInStep.yield r)) (fun ok s₃ =>
          if ok = true then wpM w A (eval elt (envK sc cl C cn cs L f cd cl₀)) (fun y s₄ => ∃ h'' t'' B'' l'', s₄ = ⟨h'', g, d, t'', os⟩ ∧ Ext B' B'' ∧ St w B'' h'' ((C, dNs (lk l'')) :: (D, dList ys) :: (it, dLIt la (i + 1)) :: own) ∧ ys.length ≤ sizeLine ∧ J (i + 1) (ys ++ [y]) B'') E' s₃
          else ∃ h'' t'' B'' l'', s₃ = ⟨h'', g, d, t'', os⟩ ∧ Ext B' B'' ∧ St w B'' h'' ((C, dNs (lk l'')) :: (D, dList ys) :: (it, dLIt la (i + 1)) :: own) ∧ J (i + 1) ys B'') E' s₂) E' ⟨h', g, d, t', os⟩)
    (l : List (Str × Value)) (ow : Addr → Led) (hu : ∀ D, LUp L (dNs (lk l)) (dNs (lk (setL y (.ref D) l))) own (ow D))
    (done : ∀ ys B' D h' t', J xs.length ys B' → Ext B B' → St w B' h' ((D, dList ys) :: ow D) → Q .next ⟨h', g, d, t', os⟩)
    (hsw : swapsWith (.ListComp elt [⟨.Tuple elts x1 tp, iter, ifs, 0⟩] sc pos) (some (.Name y py)) spos.line (envX cn cs L f cd cl₀) = pure true)
    (hclos : closureFor sc (envX cn cs L f cd cl₀) = pure cl) (hs : ∀ x, foldedSetIterable iter (envX cn cs L f cd cl₀) x = pure x) (hcell : (sc.names.all fun y => y.2 != .cell) = true) (hkind : sc.kind = .function)
    (hnames : (sc.names.all fun y => y.2 != .local || decide (sc.names.lookup y.1 = some .local)) = true) (hk : cs.kind = .function) (hx : (envX cn cs L f cd cl₀).kindOf y = some .local) :
    wpM w A (exec (.Assign [.Name y py] (.ListComp elt [⟨.Tuple elts x1 tp, iter, ifs, 0⟩] sc pos) spos) (envX cn cs L f cd cl₀)) Q E ⟨h, g, d, t, os⟩ := by
  show wpAny _ _ _ _ _ _
  rw [exec_Assign_Name_used _ _ _ _ hsw]
  refine wpAny_bind (wpAny_standAt (wpAny_bind ?_))
  show wpAny _ A (do let _ ← comprehension (.ListComp elt [⟨.Tuple elts x1 tp, iter, ifs, 0⟩] sc pos) sc (envX cn cs L f cd cl₀) _ (newList []) false (eval iter (envX cn cs L f cd cl₀)) (some (assign (.Name y py) (envX cn cs L f cd cl₀)))) _ _ _
  refine wpAny_bind (wpAny_mono (wpAny_comprehension_free (use := some (assign (.Name y py) (envX cn cs L f cd cl₀))) (Q := fun _ s' => Q .next s') rfl hs hclos hkind (fun y hy hl => ?_) (hiter _ ?_)) (fun _ s' hq => wpAny_pure (wpAny_pure hq)) fun _ _ e => e)
  · have := List.all_eq_true.mp hnames y hy
    simpa [hl] using this
  · refine comp_core (RR := fun acc C => compPost (model Pr w) A E (some (assign (.Name y py) (envX cn cs L f cd cl₀))) (fun _ s' => Q .next s') acc C) J ha S hla hT hr j0 turn (fun ys B' l' D C h' t' j X S' => ?_) (fun y hy => ?_) hkind
    · show wpAny _ A (assign (.Name y py) (envX cn cs L f cd cl₀) (.ref D)) _ _ _
      refine wpAny_assign_Name (r_store S' (.tail (.tail (hu D))) (fun h'' t'' S'' => ?_) hk hx)
      exact ⟨_, (S''.mem .head).ns, fun h3 hs3 => done ys B' D h3 t'' j X (S''.lose hs3.extBut)⟩
    · have := List.all_eq_true.mp hcell y hy
      simpa using this
/-- parts of the ledger that will not change go into the base -/
theorem St.frz {new : Led} (S : St w B h own) (p : own.Perm (new ++ own')) : ∃ B', Ext B B' ∧ (∀ p ∈ new, At B' p.1 p.2 ∧ p.1 ∉ Tb) ∧ St w B' h own' := by
  have S1 := S.perm p
  obtain ⟨B', e1, e2, e3, _⟩ := S1.freeze
  exact ⟨B', e1, fun p hp => ⟨e2 p hp, (S1.nw p (List.mem_append_left _ hp)).2.2.1⟩, e3⟩
/-- for target in a list that stands -/
theorem for_gen {target iter : Expr} {body : List Stmt} {env : Env} {pos : Pos} {Q : Flow → Shared → Prop}
    (J : Nat → Heap → Led → Prop) (a : AOk A n u) (S : St w B h own) (hla : At B la (dList xs)) (hT : la ∉ Tb) (j0 : J 0 B own)
    (hiter : ∀ Q' : Value → Shared → Prop, Q' (.ref la) ⟨h, g, d, t, os⟩ → wpM w A (eval iter env) Q' E ⟨h, g, d, t, os⟩)
    (turn : ∀ i v B' rest' it h' t' E' (Post : Flow → Shared → Prop), xs[i]? = some v → J i B' rest' → Ext B B' → St w B' h' ((it, dLIt la (i + 1)) :: rest') →
      (∀ fl h'' t'' B'' rest'', fl = .next ∨ fl = .cont → Ext B' B'' → St w B'' h'' ((it, dLIt la (i + 1)) :: rest'') → J (i + 1) B'' rest'' → Post fl ⟨h'', g, d, t'', os⟩) → (∀ s', Q .next s' → Post .brk s') → (∀ v s', Q (.ret v) s' → Post (.ret v) s') →
      wpM w A (assign target env v) (fun _ s₁ => wpM w A (execs body env) Post E' s₁) E' ⟨h', g, d, t', os⟩)
    (done : ∀ B' rest' h' t', J xs.length B' rest' → Ext B B' → St w B' h' rest' → Q .next ⟨h', g, d, t', os⟩)
    (hs : ∀ v, foldedSetIterable iter env v = pure v) (ht : ∀ it v, letOwnedTupleGo target it v = pure ()) :
    wpM w A (exec (.For target iter body [] pos) env) Q E ⟨h, g, d, t, os⟩ := by
  refine wpAny_For (hiter _ ?_) hs
  refine wpAny_pyIter_list (S.old hla hT).list ?_
  have S1 : St w B (h.push { cls := .type "list_iterator", data := .fields #[.ref la, .int 0 0] }) ((h.objs.size, dLIt la 0) :: own) := S.alloc (dd := dLIt la 0) ⟨rfl, rfl⟩ nc_lit rfl
  refine codeAny_forLoop (fun k s' => ∃ i h' t' B' rest', k + i = xs.length ∧ s' = ⟨h', g, d, t', os⟩ ∧ Ext B B' ∧ St w B' h' ((h.objs.size, dLIt la i) :: rest') ∧ J i B' rest') ?_ xs.length
    ⟨0, _, _, B, own, rfl, rfl, ExtT.refl _ _, S1, j0⟩ (fun v => ht _ v)
  rintro k s' ⟨i, h', t', B', rest', hki, rfl, X, S', j⟩
  have hl' : At h' la (dList xs) := (hla.ext X hT).ext S'.keep hT
  cases hv : xs[i]? with
  | none =>
    have hi : i = xs.length := by have := List.getElem?_eq_none_iff.mp hv; omega
    subst hi
    refine wpAny_pyNext_list_end (items := xs.toArray) a.hd (S'.mem .head).lit hl'.list (by simpa using hv) fun h₂ x₂ => wpAny_execs_nil ?_
    exact done B' rest' h₂ t' j X (S'.lose x₂)
  | some v =>
    refine wpAny_pyNext_list_item (items := xs.toArray) (S'.mem .head).lit hl'.list (by simpa using hv) fun h₂ i₂ x₂ => ?_
    have S2 := S'.upd (dd' := dLIt la (i + 1)) .head nc_lit x₂ i₂
    have hlt : i < xs.length := (List.getElem?_eq_some_iff.mp hv).1
    refine turn i v B' rest' _ h₂ t' _ _ hv j X S2 (fun fl h₅ t₅ B₅ r₅ e X₅ S₅ j₅ => ?_) (fun _ z => z) (fun _ _ z => z)
    rcases e with rfl | rfl <;> exact ⟨k - 1, by omega, i + 1, h₅, t₅, B₅, r₅, by omega, rfl, X.trans X₅, S₅, j₅⟩
end
local macro_rules | `(tactic| wtm_at "mine k_un") => `(tactic| first | wtm_at "mine k_store" | wtm_at "mine w_un")

/-- a class made by cmp_to_key over c -/
def KAll (h : Heap) (c k : Addr) : Prop := ∃ D, KAt NoTb h c k D
theorem KAll.ext {h h' : Heap} {c k : Addr} (x : KAll h c k) (X : Ext h h') : KAll h' c k := x.elim fun D z => ⟨D, z.to (fun _ f => f) fun a o f e => X a o e f⟩
theorem big {P : Params} {h : Heap} (K : KIn P h) : 97 ≤ h.objs.size := Nat.lt_of_le_of_lt (by decide) (Heap.lt_size (K 96 _ rfl (by decide)))
/-- the start of a run of the engine -/
@[reducible] def cx (w : World) (T : List Nat) (h : Heap) (g : Array GenState) (d : Drawn) (os : OsState) : Cx := ⟨Pr, w, T, h, g, d, os, h.objs.size - 97⟩
theorem ad97 {w : World} {T : List Nat} {h : Heap} {g : Array GenState} {d : Drawn} {os : OsState} (hb : 97 ≤ h.objs.size) : h.objs.size = ad (cx w T h g d os) 97 := (Nat.sub_add_cancel hb).symm
theorem own0 {P : Params} {w : World} {h : Heap} {g : Array GenState} {d : Drawn} {os : OsState} (K : KIn P h) : Own3 (cx w [] h g d os) [] [] 97 h :=
  ⟨fun _ _ e _ => e, fun _ _ e => (nomatch e), fun _ _ e => (nomatch e), fun _ _ e => (nomatch e), fun _ _ e => (nomatch e), fun _ e => (nomatch e), ad97 (big K), ad97 (big K)⟩
theorem own16 {P : Params} {w : World} {h : Heap} {g : Array GenState} {d : Drawn} {os : OsState} (K : KIn P h) (g16 : h.get? 16 = some emptyTab) : Own3 (cx w [16] h g d os) [(16, emptyTab)] [] 97 h := by
  have one : ∀ a o, fd [(16, emptyTab)] a = some o → a = 16 ∧ o = emptyTab := fun a o e => by
    rw [fd_cons] at e
    split at e
    · rename_i hk; cases e; exact ⟨hk.symm, rfl⟩
    · cases e
  refine ⟨fun _ _ e _ => e, fun a o e => ?_, fun a o e => ?_, fun _ _ e => (nomatch e), fun _ _ e => (nomatch e), fun b hb => ?_, ad97 (big K), ad97 (big K)⟩
  · obtain ⟨rfl, rfl⟩ := one a o e; exact g16
  · obtain ⟨rfl, rfl⟩ := one a o e; exact .head _
  · rw [List.mem_singleton.mp hb]; exact Heap.lt_size g16
theorem AOk.ak {A : Around} {n u : Nat} (a : AOk A n u) (hn : n ≤ 400) (hu : u ≤ 400) : AK A 400 400 := ⟨a.hd, Nat.le_trans a.dp hn, Nat.le_trans a.un hu⟩
theorem codeRec_at {h : Heap} {a : Addr} {q : Str} (x : h.CodeRec (.ref a) q) : ∃ o, h.get? a = some o ∧ isCT o := by
  obtain ⟨c, o, vs, t, e, r, d, z⟩ := x
  cases e
  exact ⟨o, r, vs, d, .inr ⟨_, _, z⟩⟩
theorem KCd.cells {F F' : Addr → Prop} {h : Heap} {D : KC} (x : KCd F h D) (f : ∀ a o, F a → h.get? a = some o → isCT o → F' a) : KCd F' h D where
  fc := f _ _ x.fc x.ec ⟨_, rfl, .inr x.str1⟩
  fP := f _ _ x.fP x.eP ⟨_, rfl, .inl rfl⟩
  ec := x.ec
  eP := x.eP
  cc := x.cc
  f0 := (codeRec_at x.r0).elim fun o z => f _ o x.f0 z.1 z.2
  r0 := x.r0
  f1 := (codeRec_at x.r1).elim fun o z => f _ o x.f1 z.1 z.2
  r1 := x.r1
  f2 := (codeRec_at x.r2).elim fun o z => f _ o x.f2 z.1 z.2
  r2 := x.r2
  f3 := (codeRec_at x.r3).elim fun o z => f _ o x.f3 z.1 z.2
  r3 := x.r3
  f4 := (codeRec_at x.r4).elim fun o z => f _ o x.f4 z.1 z.2
  r4 := x.r4
  f5 := (codeRec_at x.r5).elim fun o z => f _ o x.f5 z.1 z.2
  r5 := x.r5
/-- cmp_to_key, called with its table empty or full -/
theorem o_cmp {w : World} {A : Around} {E : Value → Shared → Prop} {B h : Heap} {g : Array GenState} {d : Drawn} {t : Nat} {os : OsState} {own : Led} {c : Addr} {n u : Nat} {Q : Value → Shared → Prop} (a : AOk A n u) (hn : n ≤ 400) (hu : u ≤ 400) (S : St w B h own)
    (q : ∀ h' t' B' k, Ext B B' → St w B' h' own → KAll B' c k → Q (.ref k) ⟨h', g, d, t', os⟩) :
    wpM w A (call (.ref 21) [.ref c] []) Q E ⟨h, g, d, t, os⟩ := by
  have n16 : ∀ e ∈ TS, e.1 ≠ 16 := by decide
  have tl : ∀ a, h.get? a = none → NoTb a := fun a e hm => tb_lt (P := w.params) S.tb a hm e
  have fin : ∀ h' t' k D, (∀ b o, h.get? b = some o → b ≠ 16 → h'.get? b = some o) → Tabs h' → KAt (fun a => h.get? a = none ∨ NoTb a ∧ a ∉ own.map (·.1)) h' c k D → Q (.ref k) ⟨h', g, d, t', os⟩ := by
    intro h' t' k D kp T hk
    have X : Ext h h' := fun b o e hb => kp b o e fun z => hb (z ▸ by decide)
    have S1 : St w B h' ([] ++ own) := S.call0 X T
    obtain ⟨B', X1, _, S4, all⟩ := S1.freeze
    refine q h' t' B' k X1 S4 ⟨D, hk.to (fun a f => f.elim (tl a) (·.1)) fun a o f e => all a o e (fun hm => ?_) (f.elim (tl a) (·.1))⟩
    rcases f with f | f
    · obtain ⟨p, hp, z⟩ := List.mem_map.mp hm
      obtain ⟨o, e2, _⟩ := (S.nw p hp).1
      rw [z, f] at e2; cases e2
    · exact f.2 hm
  rcases S.tb.kt with e16 | ⟨C, e16, hC⟩
  · refine cmp_run (X := cx w [16] h g d os) (a.ak hn hu) rfl S.kinh (fun h' t' k D C kp hk hC h16 => ?_) h (own16 S.kinh e16)
    have kp' : ∀ b o, h.get? b = some o → b ≠ 16 → h'.get? b = some o := fun b o e ne => kp b o e fun hm => ne (List.mem_singleton.mp hm)
    refine fin h' t' k D kp' ⟨fun e he => (S.tb.tt e he).stays (fun b o e hb => kp' b o e fun z => hb (z ▸ by decide)) fun o ho => kp' _ o ho (n16 e he), .inr ⟨C, h16, hC.to tl fun _ _ _ e => e⟩⟩ (hk.to (fun _ f => .inl f) fun _ _ _ e => e)
  · refine cmp_run2 (X := cx w [] h g d os) (F := fun a => NoTb a ∧ a ∉ own.map (·.1)) (a.ak hn hu) rfl S.kinh e16 (hC.cells fun a o f e ct => ⟨f, fun hm => ?_⟩) (fun h' t' k D kp hk => fin h' t' k D (fun b o e _ => kp b o e) (tabs_keeps S.tb kp) hk) h (own0 S.kinh)
    obtain ⟨p, hp, rfl⟩ := List.mem_map.mp hm
    obtain ⟨⟨o', e1, e2⟩, _, _, nc⟩ := S.nw p hp
    rw [e1] at e; cases e
    obtain ⟨vs, d, r⟩ := ct
    rcases r with r | ⟨q, t, r⟩
    · exact (nc _ _ e2 d).1 r
    · exact (nc _ _ e2 d).2 _ _ r

/-- an instance of the class, holding an int -/
def IsInst (h : Heap) (k x : Addr) (vi : Int) : Prop := ∃ dx vt, x ∉ Tb ∧ dx ∉ Tb ∧ h.get? x = some (kInst k dx vi vt) ∧ h.get? dx = some kEmp
theorem IsInst.ext {h h' : Heap} {k x : Addr} {vi : Int} (z : IsInst h k x vi) (X : Ext h h') : IsInst h' k x vi := z.elim fun dx r => r.elim fun vt r => ⟨dx, vt, r.1, r.2.1, X _ _ r.2.2.1 r.1, X _ _ r.2.2.2 r.2.1⟩
theorem s_inst {w : World} {A : Around} {h : Heap} {c k : Addr} {vi : Int} {vt : Tok} {n u : Nat} (a : AOk A n u) (hn : n ≤ 400) (hu : u ≤ 400) (K : KIn w.params h) (T : Tabs h) (hk : KAll h c k) :
    Does w A (call (.ref k) [.int vi vt] []) h fun r new _ => ∃ x dx, r = .ref x ∧ new = [(x, dObj (kInst k dx vi vt)), (dx, dObj kEmp)] := by
  intro Q E g d t os q
  obtain ⟨D, H⟩ := hk
  obtain ⟨cc, cd, c0, ct, cr, csl, ec⟩ := code_ex H.ec0
  refine inst_run (X := cx w [] h g d os) (a.ak hn hu) rfl K H ec (fun h' t' own i j c' O ne e1 e2 => ?_) h (own0 K)
  have kp : ∀ b o, h.get? b = some o → h'.get? b = some o := fun b o e => O.keep b o e List.not_mem_nil
  have tl : ∀ a, h.get? a = none → a ∉ Tb := fun a e hm => tb_lt (P := w.params) T _ hm e
  have f1 := O.new i (Nat.ble_eq_true_of_le (O.lt _ _ e1).1)
  have f2 := O.new j (Nat.ble_eq_true_of_le (O.lt _ _ e2).1)
  exact q _ [(_, dObj (kInst k _ vi vt)), (_, dObj kEmp)] h' t' (ExtT.all kp) (tabs_keeps T kp) (fun p hp => by
    rcases List.mem_cons.mp hp with rfl | hp
    · exact ⟨⟨_, O.cell _ _ e1, rfl⟩, f1, tl _ f1, fun o vs h e => by cases h; cases e⟩
    · rw [List.mem_singleton.mp hp]
      exact ⟨⟨_, O.cell _ _ e2, rfl⟩, f2, tl _ f2, nc_dict⟩) (List.nodup_cons.mpr ⟨fun hm => Nat.ne_of_beq_eq_false ne (ad_inj (List.mem_singleton.mp hm)), by simp⟩) ⟨_, _, rfl, rfl⟩
theorem o_slot {w : World} {A : Around} {E : Value → Shared → Prop} {B h : Heap} {g : Array GenState} {d : Drawn} {t : Nat} {os : OsState} {own : Led} {c k x : Addr} {vi : Int} {Q : Value → Shared → Prop} (S : St w B h own) (hk : KAll B c k) (hx : IsInst B k x vi)
    (q : ∀ h' t' vt, St w B h' own → Q (.int vi vt) ⟨h', g, d, t', os⟩) : wpM w A (getAttr (.ref x) "obj" true) Q E ⟨h, g, d, t, os⟩ := by
  obtain ⟨D, H⟩ := hk.ext S.keep
  obtain ⟨dx, vt, n1, n2, e1, e2⟩ := hx.ext S.keep
  exact slot_run (X := cx w [] h g d os) rfl H e1 (fun h' t' c' O => q h' t' vt (S.keeps fun b o e => O.keep b o e List.not_mem_nil)) h (own0 S.kinh)
theorem kns_keys (D : KD) : keysOk (objEs (kNs D)) = true := rfl
theorem k_special {h : Heap} {c k x : Addr} {vi : Int} {D : KD} {nm : Str} {f : Addr} {of : Obj} {y : Option Value} (H : KAt NoTb h c k D) (hx : IsInst h k x vi) (hn : nsFind (objEs (kNs D)) nm = some (.ref f)) (hf : h.get? f = some of) (hc : of.cls = .type "function") (ht : typeLookup (.type "object") nm = pure y) : h.OwnSpecial x k f "object" nm := by
  obtain ⟨dx, vt, n1, n2, e1, e2⟩ := hx
  refine ⟨_, _, _, _, D.n, _, [.type "object"], _, _, _, _, _, _, _, _, _, _, _, _, fun nm => nsFind _ nm, y, e1, rfl, H.ek, ⟨_, _, _, H.en, rfl, strKeys_of (kns_keys D), fun _ => rfl⟩, hn, hf, hc, ?_, ht⟩
  kernel_rfl
/-- op on two instances of one class goes to the method -/
theorem o_cmpK {w : World} {A : Around} {E : Value → Shared → Prop} {h : Heap} {g : Array GenState} {d : Drawn} {t : Nat} {os : OsState} {op : CmpOp} {k x y f : Addr} {vi wi : Int} {Q : Value → Shared → Prop} (hu : A.units < cLine) (X : h.OwnSpecial x k f "object" (cmpInfo op).2.1) (hx : IsInst h k x vi) (hy : IsInst h k y wi)
    (q : wpM w A (call (.ref f) [.ref x, .ref y]) (PySem.W.CmpBack Q) E ⟨h, g, d, t, os⟩) : wpM w A (richCompare op (.ref x) (.ref y)) Q E ⟨h, g, d, t, os⟩ := by
  obtain ⟨dx, vt, n1, n2, e1, e2⟩ := hx
  obtain ⟨dy, wt, m1, m2, f1, f2⟩ := hy
  have lx : Looks (model Pr w) h (typeOf (.ref x)) (.ref k) := (Looks.ld e1).andThen .now
  have ly : Looks (model Pr w) h (typeOf (.ref y)) (.ref k) := (Looks.ld f1).andThen .now
  have one : wpM w A (tryCompare (.ref x) (cmpInfo op).2.1 (.ref y)) (fun r s' => ∃ v, r = some v ∧ Q v s') E ⟨h, g, d, t, os⟩ := by
    unfold tryCompare
    refine wpAny_bind (wpAny_callSpecialIfBound?_own X (wpAny_mono q (fun v s' hv => ?_) fun _ _ e => e))
    cases v <;> first | exact hv.elim | exact wpAny_pure ⟨_, rfl, hv⟩
  unfold richCompare
  simp only [oneThing_ref]
  refine wpAny_holding (wpAny_bind (wpAny_cRoomFor hu ?_))
  refine wpAny_bind (lx.here (wpAny_bind (ly.here ?_)))
  rw [if_neg (by simp)]
  refine wpAny_bind (wpAny_pure ?_)
  simp only [Bool.false_eq_true, if_false]
  refine wpAny_bind (wpAny_mono one (fun r s' z => ?_) fun _ _ e => e)
  obtain ⟨v, rfl, hq⟩ := z
  exact wpAny_pure hq

/-- a comparison of ints: what it answers is F -/
structure CmpC (w : World) (c : Addr) (B : Heap) (F : Int → Int → Int) : Prop where
  fn : ∃ fd, At B c (dFun fd)
  nt : c ∉ Tb
  go : ∀ (h : Heap) (A : Around) (n u : Nat) (a b : Int) (ta tb : Tok), Ext B h → AOk A n u → n ≤ 360 → u ≤ 330 → Tabs h → Does w A (call (.ref c) [.int a ta, .int b tb] []) h fun r new _ => new = [] ∧ ∃ t, r = .int (F a b) t
theorem CmpC.ext {w : World} {c : Addr} {B B' : Heap} {F : Int → Int → Int} (x : CmpC w c B F) (X : Ext B B') : CmpC w c B' F :=
  ⟨x.fn.elim fun fd z => ⟨fd, z.ext X x.nt⟩, x.nt, fun h A n u a b ta tb Y => x.go h A n u a b ta tb (X.trans Y)⟩
theorem s_m1 {w : World} {A : Around} {h : Heap} {c k x y : Addr} {D : KD} {F : Int → Int → Int} {a b : Int} {n u : Nat} (ao : AOk A n u) (hn : n ≤ 350) (hu : u ≤ 320) (K : KIn w.params h) (T : Tabs h) (H : KAt NoTb h c k D) (hc : CmpC w c h F) (hx : IsInst h k x a) (hy : IsInst h k y b) :
    Does w A (call (.ref D.f1) [.ref x, .ref y] []) h fun r new _ => new = [] ∧ r = .bool (decide (F a b < 0)) := by
  intro Q E g d t os q
  have hk : KAll h c k := ⟨D, H⟩
  have hce := H.ece
  have n2 : D.ce ∉ Tb := H.fce
  have hrl : (400 : Nat) < recursionLimit := by decide
  have hn0 : Nat.blt n recursionLimit = true := Nat.ble_eq_true_of_le (by omega)
  refine enter (l := [("other", .ref y), ("self", .ref x)]) ao hn0 ⟨_, H.ef1, rfl⟩ K T H.ec1 (binds := [("self", .ref x), ("other", .ref y)]) (BindsTo.of_eq rfl) fun L h₁ t₁ A' E' a' S => ?_
  refine wpAny_execs_cons ?_
  repeat' wtm_at "mine w5"
  refine o_slot S hk hx fun h2 t2 va S => ?_
  repeat' wtm_at "mine w5"
  refine o_slot S hk hy fun h3 t3 vb S => ?_
  repeat' wtm_at "mine w5"
  refine ⟨hc.fn.elim fun fd z => ⟨fd, S.old z hc.nt⟩, hc.go _ _ _ _ _ _ _ _ S.keep a' (by omega) (by omega) S.tb _ _ _ _ _ _ fun v new h4 t4 X4 T4 N4 D4 P4 => ?_⟩
  obtain ⟨rfl, t5, rfl⟩ := P4
  have S4 := S.call X4 T4 N4 D4
  clear S
  have S := S4
  simp only [List.nil_append] at S
  repeat' wtm_at "mine w5"
  exact backS (new := []) (ExtT.refl _ _) S q ⟨rfl, rfl⟩ (List.nil_sublist _)
theorem s_m2 {w : World} {A : Around} {h : Heap} {c k x y : Addr} {D : KD} {F : Int → Int → Int} {a b : Int} {n u : Nat} (ao : AOk A n u) (hn : n ≤ 350) (hu : u ≤ 320) (K : KIn w.params h) (T : Tabs h) (H : KAt NoTb h c k D) (hc : CmpC w c h F) (hx : IsInst h k x a) (hy : IsInst h k y b) :
    Does w A (call (.ref D.f2) [.ref x, .ref y] []) h fun r new _ => new = [] ∧ r = .bool (decide (F a b > 0)) := by
  intro Q E g d t os q
  have hk : KAll h c k := ⟨D, H⟩
  have hce := H.ece
  have n2 : D.ce ∉ Tb := H.fce
  have hrl : (400 : Nat) < recursionLimit := by decide
  have hn0 : Nat.blt n recursionLimit = true := Nat.ble_eq_true_of_le (by omega)
  refine enter (l := [("other", .ref y), ("self", .ref x)]) ao hn0 ⟨_, H.ef2, rfl⟩ K T H.ec2 (binds := [("self", .ref x), ("other", .ref y)]) (BindsTo.of_eq rfl) fun L h₁ t₁ A' E' a' S => ?_
  refine wpAny_execs_cons ?_
  repeat' wtm_at "mine w5"
  refine o_slot S hk hx fun h2 t2 va S => ?_
  repeat' wtm_at "mine w5"
  refine o_slot S hk hy fun h3 t3 vb S => ?_
  repeat' wtm_at "mine w5"
  refine ⟨hc.fn.elim fun fd z => ⟨fd, S.old z hc.nt⟩, hc.go _ _ _ _ _ _ _ _ S.keep a' (by omega) (by omega) S.tb _ _ _ _ _ _ fun v new h4 t4 X4 T4 N4 D4 P4 => ?_⟩
  obtain ⟨rfl, t5, rfl⟩ := P4
  have S4 := S.call X4 T4 N4 D4
  clear S
  have S := S4
  simp only [List.nil_append] at S
  repeat' wtm_at "mine w5"
  exact backS (new := []) (ExtT.refl _ _) S q ⟨rfl, rfl⟩ (List.nil_sublist _)
theorem s_m3 {w : World} {A : Around} {h : Heap} {c k x y : Addr} {D : KD} {F : Int → Int → Int} {a b : Int} {n u : Nat} (ao : AOk A n u) (hn : n ≤ 350) (hu : u ≤ 320) (K : KIn w.params h) (T : Tabs h) (H : KAt NoTb h c k D) (hc : CmpC w c h F) (hx : IsInst h k x a) (hy : IsInst h k y b) :
    Does w A (call (.ref D.f3) [.ref x, .ref y] []) h fun r new _ => new = [] ∧ r = .bool (decide (F a b = 0)) := by
  intro Q E g d t os q
  have hk : KAll h c k := ⟨D, H⟩
  have hce := H.ece
  have n2 : D.ce ∉ Tb := H.fce
  have hrl : (400 : Nat) < recursionLimit := by decide
  have hn0 : Nat.blt n recursionLimit = true := Nat.ble_eq_true_of_le (by omega)
  refine enter (l := [("other", .ref y), ("self", .ref x)]) ao hn0 ⟨_, H.ef3, rfl⟩ K T H.ec3 (binds := [("self", .ref x), ("other", .ref y)]) (BindsTo.of_eq rfl) fun L h₁ t₁ A' E' a' S => ?_
  refine wpAny_execs_cons ?_
  repeat' wtm_at "mine w5"
  refine o_slot S hk hx fun h2 t2 va S => ?_
  repeat' wtm_at "mine w5"
  refine o_slot S hk hy fun h3 t3 vb S => ?_
  repeat' wtm_at "mine w5"
  refine ⟨hc.fn.elim fun fd z => ⟨fd, S.old z hc.nt⟩, hc.go _ _ _ _ _ _ _ _ S.keep a' (by omega) (by omega) S.tb _ _ _ _ _ _ fun v new h4 t4 X4 T4 N4 D4 P4 => ?_⟩
  obtain ⟨rfl, t5, rfl⟩ := P4
  have S4 := S.call X4 T4 N4 D4
  clear S
  have S := S4
  simp only [List.nil_append] at S
  repeat' wtm_at "mine w5"
  exact backS (new := []) (ExtT.refl _ _) S q ⟨rfl, rfl⟩ (List.nil_sublist _)
theorem s_m4 {w : World} {A : Around} {h : Heap} {c k x y : Addr} {D : KD} {F : Int → Int → Int} {a b : Int} {n u : Nat} (ao : AOk A n u) (hn : n ≤ 350) (hu : u ≤ 320) (K : KIn w.params h) (T : Tabs h) (H : KAt NoTb h c k D) (hc : CmpC w c h F) (hx : IsInst h k x a) (hy : IsInst h k y b) :
    Does w A (call (.ref D.f4) [.ref x, .ref y] []) h fun r new _ => new = [] ∧ r = .bool (decide (F a b ≤ 0)) := by
  intro Q E g d t os q
  have hk : KAll h c k := ⟨D, H⟩
  have hce := H.ece
  have n2 : D.ce ∉ Tb := H.fce
  have hrl : (400 : Nat) < recursionLimit := by decide
  have hn0 : Nat.blt n recursionLimit = true := Nat.ble_eq_true_of_le (by omega)
  refine enter (l := [("other", .ref y), ("self", .ref x)]) ao hn0 ⟨_, H.ef4, rfl⟩ K T H.ec4 (binds := [("self", .ref x), ("other", .ref y)]) (BindsTo.of_eq rfl) fun L h₁ t₁ A' E' a' S => ?_
  refine wpAny_execs_cons ?_
  repeat' wtm_at "mine w5"
  refine o_slot S hk hx fun h2 t2 va S => ?_
  repeat' wtm_at "mine w5"
  refine o_slot S hk hy fun h3 t3 vb S => ?_
  repeat' wtm_at "mine w5"
  refine ⟨hc.fn.elim fun fd z => ⟨fd, S.old z hc.nt⟩, hc.go _ _ _ _ _ _ _ _ S.keep a' (by omega) (by omega) S.tb _ _ _ _ _ _ fun v new h4 t4 X4 T4 N4 D4 P4 => ?_⟩
  obtain ⟨rfl, t5, rfl⟩ := P4
  have S4 := S.call X4 T4 N4 D4
  clear S
  have S := S4
  simp only [List.nil_append] at S
  repeat' wtm_at "mine w5"
  exact backS (new := []) (ExtT.refl _ _) S q ⟨rfl, rfl⟩ (List.nil_sublist _)
theorem s_m5 {w : World} {A : Around} {h : Heap} {c k x y : Addr} {D : KD} {F : Int → Int → Int} {a b : Int} {n u : Nat} (ao : AOk A n u) (hn : n ≤ 350) (hu : u ≤ 320) (K : KIn w.params h) (T : Tabs h) (H : KAt NoTb h c k D) (hc : CmpC w c h F) (hx : IsInst h k x a) (hy : IsInst h k y b) :
    Does w A (call (.ref D.f5) [.ref x, .ref y] []) h fun r new _ => new = [] ∧ r = .bool (decide (F a b ≥ 0)) := by
  intro Q E g d t os q
  have hk : KAll h c k := ⟨D, H⟩
  have hce := H.ece
  have n2 : D.ce ∉ Tb := H.fce
  have hrl : (400 : Nat) < recursionLimit := by decide
  have hn0 : Nat.blt n recursionLimit = true := Nat.ble_eq_true_of_le (by omega)
  refine enter (l := [("other", .ref y), ("self", .ref x)]) ao hn0 ⟨_, H.ef5, rfl⟩ K T H.ec5 (binds := [("self", .ref x), ("other", .ref y)]) (BindsTo.of_eq rfl) fun L h₁ t₁ A' E' a' S => ?_
  refine wpAny_execs_cons ?_
  repeat' wtm_at "mine w5"
  refine o_slot S hk hx fun h2 t2 va S => ?_
  repeat' wtm_at "mine w5"
  refine o_slot S hk hy fun h3 t3 vb S => ?_
  repeat' wtm_at "mine w5"
  refine ⟨hc.fn.elim fun fd z => ⟨fd, S.old z hc.nt⟩, hc.go _ _ _ _ _ _ _ _ S.keep a' (by omega) (by omega) S.tb _ _ _ _ _ _ fun v new h4 t4 X4 T4 N4 D4 P4 => ?_⟩
  obtain ⟨rfl, t5, rfl⟩ := P4
  have S4 := S.call X4 T4 N4 D4
  clear S
  have S := S4
  simp only [List.nil_append] at S
  repeat' wtm_at "mine w5"
  exact backS (new := []) (ExtT.refl _ _) S q ⟨rfl, rfl⟩ (List.nil_sublist _)

theorem k_sp1 {h : Heap} {c k x : Addr} {vi : Int} {D : KD} (H : KAt NoTb h c k D) (hx : IsInst h k x vi) : h.OwnSpecial x k D.f1 "object" "__lt__" :=
  k_special (y := some (.builtin "object.__lt__")) H hx (by kernel_rfl) H.ef1 rfl (by rw [typeLookup_type, builtinLookup_eq_fast]; kernel_rfl)
/-- Lt of two keys tells what the comparison does -/
theorem s_op1 {w : World} {A : Around} {h : Heap} {c k x y : Addr} {F : Int → Int → Int} {a b : Int} {n u : Nat} (ao : AOk A n u) (hn : n ≤ 350) (hu : u ≤ 320) (K : KIn w.params h) (T : Tabs h) (hk : KAll h c k) (hc : CmpC w c h F) (hx : IsInst h k x a) (hy : IsInst h k y b) :
    Does w A (compareOp .Lt (.ref x) (.ref y)) h fun r new _ => new = [] ∧ r = .bool (decide (F a b < 0)) := by
  intro Q E g d t os q
  obtain ⟨D, H⟩ := hk
  have hcl : (400 : Nat) < cLine := by decide
  refine o_cmpK (op := .Lt) (Nat.lt_of_le_of_lt (Nat.le_trans ao.un (Nat.le_trans hu (by decide))) hcl) (k_sp1 H hx) hx hy ?_
  refine s_m1 ao hn hu K T H hc hx hy _ _ _ _ _ _ fun v new h4 t4 X4 T4 N4 D4 P4 => ?_
  obtain ⟨rfl, rfl⟩ := P4
  exact q _ [] h4 t4 X4 T4 N4 D4 ⟨rfl, rfl⟩
theorem k_sp2 {h : Heap} {c k x : Addr} {vi : Int} {D : KD} (H : KAt NoTb h c k D) (hx : IsInst h k x vi) : h.OwnSpecial x k D.f2 "object" "__gt__" :=
  k_special (y := some (.builtin "object.__gt__")) H hx (by kernel_rfl) H.ef2 rfl (by rw [typeLookup_type, builtinLookup_eq_fast]; kernel_rfl)
/-- Gt of two keys tells what the comparison does -/
theorem s_op2 {w : World} {A : Around} {h : Heap} {c k x y : Addr} {F : Int → Int → Int} {a b : Int} {n u : Nat} (ao : AOk A n u) (hn : n ≤ 350) (hu : u ≤ 320) (K : KIn w.params h) (T : Tabs h) (hk : KAll h c k) (hc : CmpC w c h F) (hx : IsInst h k x a) (hy : IsInst h k y b) :
    Does w A (compareOp .Gt (.ref x) (.ref y)) h fun r new _ => new = [] ∧ r = .bool (decide (F a b > 0)) := by
  intro Q E g d t os q
  obtain ⟨D, H⟩ := hk
  have hcl : (400 : Nat) < cLine := by decide
  refine o_cmpK (op := .Gt) (Nat.lt_of_le_of_lt (Nat.le_trans ao.un (Nat.le_trans hu (by decide))) hcl) (k_sp2 H hx) hx hy ?_
  refine s_m2 ao hn hu K T H hc hx hy _ _ _ _ _ _ fun v new h4 t4 X4 T4 N4 D4 P4 => ?_
  obtain ⟨rfl, rfl⟩ := P4
  exact q _ [] h4 t4 X4 T4 N4 D4 ⟨rfl, rfl⟩
theorem k_sp3 {h : Heap} {c k x : Addr} {vi : Int} {D : KD} (H : KAt NoTb h c k D) (hx : IsInst h k x vi) : h.OwnSpecial x k D.f3 "object" "__eq__" :=
  k_special (y := some (.builtin "object.__eq__")) H hx (by kernel_rfl) H.ef3 rfl (by rw [typeLookup_type, builtinLookup_eq_fast]; kernel_rfl)
/-- Eq of two keys tells what the comparison does -/
theorem s_op3 {w : World} {A : Around} {h : Heap} {c k x y : Addr} {F : Int → Int → Int} {a b : Int} {n u : Nat} (ao : AOk A n u) (hn : n ≤ 350) (hu : u ≤ 320) (K : KIn w.params h) (T : Tabs h) (hk : KAll h c k) (hc : CmpC w c h F) (hx : IsInst h k x a) (hy : IsInst h k y b) :
    Does w A (compareOp .Eq (.ref x) (.ref y)) h fun r new _ => new = [] ∧ r = .bool (decide (F a b = 0)) := by
  intro Q E g d t os q
  obtain ⟨D, H⟩ := hk
  have hcl : (400 : Nat) < cLine := by decide
  refine o_cmpK (op := .Eq) (Nat.lt_of_le_of_lt (Nat.le_trans ao.un (Nat.le_trans hu (by decide))) hcl) (k_sp3 H hx) hx hy ?_
  refine s_m3 ao hn hu K T H hc hx hy _ _ _ _ _ _ fun v new h4 t4 X4 T4 N4 D4 P4 => ?_
  obtain ⟨rfl, rfl⟩ := P4
  exact q _ [] h4 t4 X4 T4 N4 D4 ⟨rfl, rfl⟩
theorem k_sp4 {h : Heap} {c k x : Addr} {vi : Int} {D : KD} (H : KAt NoTb h c k D) (hx : IsInst h k x vi) : h.OwnSpecial x k D.f4 "object" "__le__" :=
  k_special (y := some (.builtin "object.__le__")) H hx (by kernel_rfl) H.ef4 rfl (by rw [typeLookup_type, builtinLookup_eq_fast]; kernel_rfl)
/-- LtE of two keys tells what the comparison does -/
theorem s_op4 {w : World} {A : Around} {h : Heap} {c k x y : Addr} {F : Int → Int → Int} {a b : Int} {n u : Nat} (ao : AOk A n u) (hn : n ≤ 350) (hu : u ≤ 320) (K : KIn w.params h) (T : Tabs h) (hk : KAll h c k) (hc : CmpC w c h F) (hx : IsInst h k x a) (hy : IsInst h k y b) :
    Does w A (compareOp .LtE (.ref x) (.ref y)) h fun r new _ => new = [] ∧ r = .bool (decide (F a b ≤ 0)) := by
  intro Q E g d t os q
  obtain ⟨D, H⟩ := hk
  have hcl : (400 : Nat) < cLine := by decide
  refine o_cmpK (op := .LtE) (Nat.lt_of_le_of_lt (Nat.le_trans ao.un (Nat.le_trans hu (by decide))) hcl) (k_sp4 H hx) hx hy ?_
  refine s_m4 ao hn hu K T H hc hx hy _ _ _ _ _ _ fun v new h4 t4 X4 T4 N4 D4 P4 => ?_
  obtain ⟨rfl, rfl⟩ := P4
  exact q _ [] h4 t4 X4 T4 N4 D4 ⟨rfl, rfl⟩
theorem k_sp5 {h : Heap} {c k x : Addr} {vi : Int} {D : KD} (H : KAt NoTb h c k D) (hx : IsInst h k x vi) : h.OwnSpecial x k D.f5 "object" "__ge__" :=
  k_special (y := some (.builtin "object.__ge__")) H hx (by kernel_rfl) H.ef5 rfl (by rw [typeLookup_type, builtinLookup_eq_fast]; kernel_rfl)
/-- GtE of two keys tells what the comparison does -/
theorem s_op5 {w : World} {A : Around} {h : Heap} {c k x y : Addr} {F : Int → Int → Int} {a b : Int} {n u : Nat} (ao : AOk A n u) (hn : n ≤ 350) (hu : u ≤ 320) (K : KIn w.params h) (T : Tabs h) (hk : KAll h c k) (hc : CmpC w c h F) (hx : IsInst h k x a) (hy : IsInst h k y b) :
    Does w A (compareOp .GtE (.ref x) (.ref y)) h fun r new _ => new = [] ∧ r = .bool (decide (F a b ≥ 0)) := by
  intro Q E g d t os q
  obtain ⟨D, H⟩ := hk
  have hcl : (400 : Nat) < cLine := by decide
  refine o_cmpK (op := .GtE) (Nat.lt_of_le_of_lt (Nat.le_trans ao.un (Nat.le_trans hu (by decide))) hcl) (k_sp5 H hx) hx hy ?_
  refine s_m5 ao hn hu K T H hc hx hy _ _ _ _ _ _ fun v new h4 t4 X4 T4 N4 D4 P4 => ?_
  obtain ⟨rfl, rfl⟩ := P4
  exact q _ [] h4 t4 X4 T4 N4 D4 ⟨rfl, rfl⟩
/-- the sort's question -/
theorem s_key {w : World} {A : Around} {h : Heap} {c k x y : Addr} {F : Int → Int → Int} {a b : Int} {n u : Nat} (ao : AOk A n u) (hn : n ≤ 350) (hu : u ≤ 320) (K : KIn w.params h) (T : Tabs h) (hk : KAll h c k) (hc : CmpC w c h F) (hx : IsInst h k x a) (hy : IsInst h k y b) :
    Does w A (keyLt' oneType' (.ref x) (.ref y)) h fun r _ _ => r = decide (F a b < 0) := by
  intro Q E g d t os q
  obtain ⟨D, H⟩ := hk
  have hcl : (400 : Nat) < cLine := by decide
  rw [keyLt'_oneType, oneLt'_eq]
  simp only [if_true]
  refine wpAny_bind (wpAny_cRoomFor (Nat.lt_of_le_of_lt (Nat.le_trans ao.un (Nat.le_trans hu (by decide))) hcl) ?_)
  refine wpAny_bind (wpAny_callSpecialIfBound?_own (k_sp1 H hx) ?_)
  refine s_m1 ao hn hu K T H hc hx hy _ _ _ _ _ _ fun v new h4 t4 X4 T4 N4 D4 P4 => ?_
  obtain ⟨rfl, rfl⟩ := P4
  exact wpAny_truthy_bool (q _ [] h4 t4 X4 T4 N4 D4 rfl)

def lamOf : Option Stmt → Arguments × Expr × Scope
  | some (.Assign _ (.Lambda a b s _) _) => (a, b, s)
  | _ => default
noncomputable def lamS : { x // x = lamOf (bd44.1)[1]? } := ⟨_, rfl⟩
abbrev visQ : Str := "_law_visit.<locals>.<lambda>"
theorem s_visit {w : World} {A : Around} {h : Heap} {v₁ v₂ v₃ : Value} {n u : Nat} (a : AOk A n u) (hn : Nat.blt n recursionLimit = true) (K : KIn w.params h) (T : Tabs h) :
    Does w A (call (.ref 44) [v₁, v₂, v₃] []) h fun r new h' => ∃ f dx sp c1 c2 c' fd ctv, r = .ref f ∧ h'.CodeRec (.ref c') visQ ∧ c' ∉ Tb ∧
      new = [(dx, dNz 4 (lk [("span", .ref sp), ("first", v₁), ("behind", v₂), ("guest", v₃)])), (sp, dObj (kla_obj "<lambda>" visQ lamS.1.1 lamS.1.2.1 lamS.1.2.2 [("first", c1), ("behind", c2)] (pmOf w) c' ctv)), (f, dObj { cls := .type "function", dict := some dx, data := .func fd }), (c2, dCell (some v₂)), (c1, dCell (some v₁))] := by
  intro Q E g d t os q
  obtain ⟨pm, hf⟩ := fa44 K
  refine enterC a hn hf K T (ca44 K) (binds := [("first", v₁), ("behind", v₂), ("guest", v₃)]) (cls := fun L => [("behind", L + 2), ("first", L + 1)]) (led := fun L => [(L + 2, dCell (some v₂)), (L + 1, dCell (some v₁))]) (l := [("guest", v₃)]) rfl (fun _ => rfl) (fun _ => rfl) rfl (fun L h₁ t₁ A' E' a' S => ?_) (fun _ => rfl)
  simp only [List.cons_append, List.nil_append] at S
  refine wpAny_execs_cons (wpAny_Assign_Name ?_)
  refine r_Lambda (sp := sp39) (qual := visQ) S (cd43 S.kinh) (by decide) rfl rfl rfl rfl (by decide) rfl fun f c0 ctv0 B1 h2 t2 X1 hc0 r0 S => ?_
  iterate 3 wtm_at "mine w2"
  refine r_Lambda (sp := sp39) (qual := visQ) S (cd43 S.kinh) (by decide) rfl rfl rfl rfl (by decide) rfl fun sp c1 ctv1 B2 h3 t3 X2 hc1 r1 S => ?_
  repeat' wtm_at "mine w2"
  exact backS (X1.trans X2) S q ⟨f, dx, sp, L + 1, L + 2, c1, _, ctv1, rfl, codeRec_ext r1 S.keep hc1, hc1, rfl⟩ (by wtm_at "mine m_sl")
theorem s_span {w : World} {A : Around} {h : Heap} {v₁ v₂ : Value} {sp c1 c2 c' : Addr} {pm ctv : Value} {n u : Nat} (a : AOk A n u) (hn : Nat.blt n recursionLimit = true) (K : KIn w.params h) (T : Tabs h)
    (hf : At h sp (dFun (kla_fn "<lambda>" visQ lamS.1.1 lamS.1.2.1 lamS.1.2.2 [("first", c1), ("behind", c2)] pm (.ref c') ctv))) (hc : h.CodeRec (.ref c') visQ) (h1 : At h c1 (dCell (some v₁))) (h2 : At h c2 (dCell (some v₂))) (n1 : c1 ∉ Tb) (n2 : c2 ∉ Tb) :
    Does w A (call (.ref sp) [] []) h fun r new _ => ∃ T, r = .ref T ∧ new = [(T, dTup [v₁, v₂])] := by
  intro Q E g d t os q
  refine enterL (l := []) a hn hf K T hc (binds := []) (BindsTo.of_eq rfl) fun L h₁ t₁ A' E' a' S => ?_
  refine Tuple_ ?_
  repeat' wtm_at "mine w2"
  exact backS (ExtT.refl _ _) S q ⟨_, rfl, rfl⟩ (by wtm_at "mine m_sl")
/-- a visit that stands -/
structure VD where
  f : Addr
  dx : Addr
  sp : Addr
  c1 : Addr
  c2 : Addr
  c' : Addr
  fd : FuncData
  pm : Value
  ctv : Value
  t1 : Tok
  t2 : Tok
  t3 : Tok
structure VAt (h : Heap) (D : VD) (k : Int × Int × Int) : Prop where
  nf : D.f ∉ Tb
  ndx : D.dx ∉ Tb
  nsp : D.sp ∉ Tb
  n1 : D.c1 ∉ Tb
  n2 : D.c2 ∉ Tb
  nc : D.c' ∉ Tb
  f : At h D.f (dObj { cls := .type "function", dict := some D.dx, data := .func D.fd })
  dx : At h D.dx (dNz 4 (lk [("span", .ref D.sp), ("first", .int k.1 D.t1), ("behind", .int k.2.1 D.t2), ("guest", .int k.2.2 D.t3)]))
  sp : At h D.sp (dFun (kla_fn "<lambda>" visQ lamS.1.1 lamS.1.2.1 lamS.1.2.2 [("first", D.c1), ("behind", D.c2)] D.pm (.ref D.c') D.ctv))
  c1 : At h D.c1 (dCell (some (.int k.1 D.t1)))
  c2 : At h D.c2 (dCell (some (.int k.2.1 D.t2)))
  cr : h.CodeRec (.ref D.c') visQ
theorem VAt.ext {h h' : Heap} {D : VD} {k : Int × Int × Int} (x : VAt h D k) (X : Ext h h') : VAt h' D k where
  nf := x.nf
  ndx := x.ndx
  nsp := x.nsp
  n1 := x.n1
  n2 := x.n2
  nc := x.nc
  f := x.f.ext X x.nf
  dx := x.dx.ext X x.ndx
  sp := x.sp.ext X x.nsp
  c1 := x.c1.ext X x.n1
  c2 := x.c2.ext X x.n2
  cr := codeRec_ext x.cr X x.nc
/-- the value v is the visit k = (first, behind, guest) -/
def IsV (h : Heap) (v : Value) (k : Int × Int × Int) : Prop := ∃ D, v = .ref D.f ∧ VAt h D k
theorem IsV.ext {h h' : Heap} {v : Value} {k : Int × Int × Int} (x : IsV h v k) (X : Ext h h') : IsV h' v k := x.elim fun D z => ⟨D, z.1, z.2.ext X⟩

noncomputable def seS : { x // x = nestOf (bd65.1)[0]? } := ⟨_, rfl⟩
abbrev seQ : Str := "_law_program.<locals>.search"
theorem s_program {w : World} {A : Around} {h : Heap} {v₁ v₂ : Value} {n u : Nat} (a : AOk A n u) (hn : Nat.blt n recursionLimit = true) (K : KIn w.params h) (T : Tabs h) :
    Does w A (call (.ref 65) [v₁, v₂] []) h fun r new h' => ∃ p dx se T c' fd doc ctv tk c1 c2, r = .ref p ∧ h'.CodeRec (.ref c') seQ ∧ c' ∉ Tb ∧
      new = [(dx, dNz 1 (lk [("search", .ref se)])), (p, dObj { cls := .type "function", dict := some dx, data := .func fd }), (se, dObj (kdv_obj "search" seQ seS.1.1 (.stmts seS.1.2.1) seS.1.2.2 [("two", c2), ("one", c1)] (.ref T) doc (pmOf w) c' ctv)), (T, dTup [.int 0 tk]), (c2, dCell (some v₂)), (c1, dCell (some v₁))] := by
  intro Q E g d t os q
  obtain ⟨pm, hf⟩ := fa65 K
  refine enterC a hn hf K T (ca65 K) (binds := [("one", v₁), ("two", v₂)]) (cls := fun L => [("two", L + 2), ("one", L + 1)]) (led := fun L => [(L + 2, dCell (some v₂)), (L + 1, dCell (some v₁))]) (l := []) rfl (fun _ => rfl) (fun _ => rfl) rfl (fun L h₁ t₁ A' E' a' S => ?_) (fun _ => rfl)
  simp only [List.cons_append, List.nil_append] at S
  refine wpAny_execs_cons ?_
  refine r_FunctionDefD (sp := sp60) (qual := seQ) (clos := [("two", L + 2), ("one", L + 1)]) cd64 (by decide) rfl rfl rfl rfl (by decide) rfl rfl rfl ?_
  refine kdv_all1 ?_
  repeat' wtm_at "mine w2"
  refine kdv_all0 ?_
  refine ⟨_, _, _, _, rfl, S, rfl, Nat.le_of_ble_eq_true rfl, fun se T c' ctv doc B1 h2 t2 X1 hc1 r1 S => ?_⟩
  iterate 3 wtm_at "mine w2"
  refine r_Lambda (sp := sp60) (qual := "_law_program.<locals>.<lambda>") S (cd64 S.kinh) (by decide) rfl rfl rfl rfl (by decide) rfl fun p c2 ctv2 B2 h3 t3 X2 hc2 r2 S => ?_
  repeat' wtm_at "mine w2"
  exact backS (X1.trans X2) S q ⟨p, dx, se, T, c', _, doc, ctv, _, L + 1, L + 2, rfl, codeRec_ext (codeRec_ext r1 X2 hc1) S.keep hc1, hc1, rfl⟩ (by wtm_at "mine m_sl")

section
open PySem.SeqAt
abbrev K3 := Int × Int × Int
def gin (a b : Int) (k : K3) : Bool := a == k.2.2 || b == k.2.2
def begunAt (ks : List K3) (hour : Int) (i : Nat) : Bool := (ks.take i).any fun k => k.1 == hour
def hitAt (ks : List K3) (hour a b : Int) (i : Nat) (k : K3) : Bool := begunAt ks hour (i + 1) && gin a b k
theorem begun_succ {ks : List K3} {hour : Int} {i : Nat} {k : K3} (hk : ks[i]? = some k) : begunAt ks hour (i + 1) = (begunAt ks hour i || k.1 == hour) := by
  unfold begunAt
  rw [List.take_add_one, hk, List.any_append]
  simp
def IsSearch (h : Heap) (se : Addr) (a b : Int) : Prop := ∃ T c' doc ctv pm tk c1 c2 t1 t2, se ∉ Tb ∧ T ∉ Tb ∧ c' ∉ Tb ∧ c1 ∉ Tb ∧ c2 ∉ Tb ∧ At h se (dFun (kdv_fn "search" seQ seS.1.1 (.stmts seS.1.2.1) seS.1.2.2 [("two", c2), ("one", c1)] (.ref T) doc pm (.ref c') ctv)) ∧ At h T (dTup [.int 0 tk]) ∧ h.CodeRec (.ref c') seQ ∧ At h c1 (dCell (some (.int a t1))) ∧ At h c2 (dCell (some (.int b t2)))
def SPost (ks : List K3) (xs : List Value) (hour a b : Int) (r : Value) : Prop :=
  (r = .none ∧ ∀ i k, ks[i]? = some k → hitAt ks hour a b i k = false) ∨ ∃ i k, ks[i]? = some k ∧ xs[i]? = some r ∧ hitAt ks hour a b i k = true ∧ ∀ j k', j < i → ks[j]? = some k' → hitAt ks hour a b j k' = false
theorem o_inTup {w : World} {A : Around} {E : Value → Shared → Prop} {s : Shared} {T : Addr} {a b g : Int} {ta tb tg : Tok} {Q : Value → Shared → Prop} (hl : At s.heap T (dTup [.int a ta, .int b tb])) (q : Q (.bool (a == g || b == g)) s) : wpM w A (compareOp .In (.int g tg) (.ref T)) Q E s := by
  refine in_tupleAt (items := #[.int a ta, .int b tb]) (fun y => match y with | .int i _ => i == g | _ => false) (let ⟨o, e, n, z⟩ := hl; ⟨o, e, by rw [z], n, by rw [z]⟩) (fun y hy => ?_) (by simpa using q)
  have : y = .int a ta ∨ y = .int b tb := by simpa using hy
  rcases this with rfl | rfl <;> exact EqAt.int_int _ _ _ _
theorem s_search {w : World} {A : Around} {h : Heap} {se la : Addr} {xs : List Value} {ks : List K3} {hour ga gb : Int} {tk : Tok} {args : List Value} {n u : Nat} (ao : AOk A n u) (hn : Nat.blt n recursionLimit = true) (K : KIn w.params h) (T : Tabs h) (hs : IsSearch h se ga gb)
    (hl : At h la (dList xs)) (hT : la ∉ Tb) (hx : Are (IsV h) xs ks) (hargs : args = [.ref la, .int hour tk] ∨ (args = [.ref la] ∧ hour = 0)) :
    Does w A (call (.ref se) args []) h fun r new _ => new = [] ∧ SPost ks xs hour ga gb r := by
  intro Q E g d t os q
  obtain ⟨T0, c', doc, ctv, pm, tk0, c1, c2, t1, t2, _, _, _, n1, n2, hf, hT0, hc, D1, D2⟩ := hs
  have hb : ∃ tk, BindsTo ⟨h, g, d, t, os⟩ (fnX "search" seQ seS.1.1 seS.1.2.1 seS.1.2.2 [("two", c2), ("one", c1)] (.ref T0) .none doc pm none (.ref c') ctv) ⟨args, []⟩ [("visits", .ref la), ("hour", .int hour tk)] := by
    obtain ⟨o, ho, n0, e⟩ := hT0
    rcases hargs with rfl | ⟨rfl, rfl⟩
    · exact ⟨tk, BindsTo.of_defaults (T := T0) (o := o) (n := n0) rfl ho (by rw [e]) rfl rfl⟩
    · exact ⟨tk0, BindsTo.of_defaults (T := T0) (o := o) (n := n0) rfl ho (by rw [e]) rfl rfl⟩
  obtain ⟨tk, hb⟩ := hb
  refine enter (l := [("hour", .int hour tk), ("visits", .ref la)]) ao hn hf K T hc hb fun L h₁ t₁ A' E' a' S => ?_
  refine wpAny_execs_cons ?_
  repeat' wtm_at "mine w5"
  refine for_list (fun i B' l' rest' => lk l' "begun" = some (.bool (begunAt ks hour i)) ∧ lk l' "hour" = some (.int hour tk) ∧ rest' = [] ∧ ∀ j k, j < i → ks[j]? = some k → hitAt ks hour ga gb j k = false) a' S hl hT ⟨by wtm_at "mine w_lk", by wtm_at "mine w_lk", rfl, fun j k hj => absurd hj (Nat.not_lt_zero _)⟩ (fun Q' q' => by (repeat' wtm_at "mine w5"); exact q') ?_ ?_
  · rintro i v B' l' rest' it h' t' E'' Post hv ⟨j1, j2, rfl, j3⟩ X S pn _ pr
    obtain ⟨k, hk, V0⟩ := hx.get hv
    obtain ⟨D, rfl, V⟩ := V0.ext X
    have Df := V.f
    have nf := V.nf
    have Dd := V.dx
    have ndx := V.ndx
    have D1' := D1.ext X n1
    have D2' := D2.ext X n2
    have hbs := begun_succ (hour := hour) hk
    refine wpAny_execs_cons (wpAny_Assign_Name ?_)
    refine BoolOp_or ?_
    repeat' wtm_at "mine w5"
    · have hcb : begunAt ks hour i = true := by assumption
      have e1 : begunAt ks hour (i + 1) = true := by rw [hbs, hcb]; rfl
      refine o_inTup (S.mem .head) ?_
      repeat' wtm_at "mine w5"
      · have hg : (ga == k.2.2 || gb == k.2.2) = true := by assumption
        refine pr _ _ ?_
        exact backS (new := []) X S q ⟨rfl, .inr ⟨i, k, hk, hv, by unfold hitAt gin; rw [e1, hg]; rfl, j3⟩⟩ (List.nil_sublist _)
      · have hg : (ga == k.2.2 || gb == k.2.2) = false := by assumption
        refine pn _ _ _ B' _ [] (.inl rfl) (ExtT.refl _ _) S.tl ⟨by rw [e1, ← hcb]; wtm_at "mine w_lk", by wtm_at "mine w_lk", rfl, fun j k' hj hk' => ?_⟩
        rcases Nat.lt_succ_iff_lt_or_eq.mp hj with hj | rfl
        · exact j3 j k' hj hk'
        · rw [hk] at hk'; cases hk'; unfold hitAt gin; rw [hg]; simp
    · simp_all
    · have hcf : begunAt ks hour i = false := by assumption
      refine BoolOp_one ?_
      repeat' wtm_at "mine w5"
      · have hcb : (k.1 == hour) = true := by assumption
        have e1 : begunAt ks hour (i + 1) = true := by rw [hbs, hcb]; simp
        refine o_inTup (S.mem .head) ?_
        repeat' wtm_at "mine w5"
        · have hg : (ga == k.2.2 || gb == k.2.2) = true := by assumption
          refine pr _ _ ?_
          exact backS (new := []) X S q ⟨rfl, .inr ⟨i, k, hk, hv, by unfold hitAt gin; rw [e1, hg]; rfl, j3⟩⟩ (List.nil_sublist _)
        · have hg : (ga == k.2.2 || gb == k.2.2) = false := by assumption
          refine pn _ _ _ B' _ [] (.inl rfl) (ExtT.refl _ _) S.tl ⟨by rw [e1, ← hcb]; wtm_at "mine w_lk", by wtm_at "mine w_lk", rfl, fun j k' hj hk' => ?_⟩
          rcases Nat.lt_succ_iff_lt_or_eq.mp hj with hj | rfl
          · exact j3 j k' hj hk'
          · rw [hk] at hk'; cases hk'; unfold hitAt gin; rw [hg]; simp
      · have hcb : (k.1 == hour) = false := by assumption
        have e1 : begunAt ks hour (i + 1) = false := by rw [hbs, hcb, hcf]; rfl
        refine pn _ _ _ B' _ [] (.inl rfl) (ExtT.refl _ _) S ⟨by rw [e1, ← hcb]; wtm_at "mine w_lk", by wtm_at "mine w_lk", rfl, fun j k' hj hk' => ?_⟩
        rcases Nat.lt_succ_iff_lt_or_eq.mp hj with hj | rfl
        · exact j3 j k' hj hk'
        · unfold hitAt; rw [e1]; rfl
  · rintro B' l' rest' h' t' ⟨j1, j2, rfl, j3⟩ X S
    repeat' wtm_at "mine w5"
    refine backS (new := []) X S q ⟨rfl, .inl ⟨rfl, fun i k hi => j3 i k ?_ hi⟩⟩ (List.nil_sublist _)
    rw [hx.length]
    exact (List.getElem?_eq_some_iff.mp hi).1

end
/-- visits that stand end to end, from the hour 0 on -/
structure VGood (ks : List K3) : Prop where
  z : ∀ k : K3, ks[0]? = some k → k.1 = 0
  lt : ∀ (i : Nat) (k : K3), ks[i]? = some k → k.1 < k.2.1
  nx : ∀ (i : Nat) (k k' : K3), ks[i]? = some k → ks[i + 1]? = some k' → k'.1 = k.2.1
theorem VGood.mono {ks : List K3} (g : VGood ks) {i : Nat} {k : K3} (hi : ks[i]? = some k) : ∀ (d : Nat) (k' : K3), ks[i + d + 1]? = some k' → k.2.1 ≤ k'.1
  | 0, k', h => Int.le_of_eq (g.nx i k k' hi h).symm
  | d + 1, k', h => by
    have hl := (List.getElem?_eq_some_iff.mp h).1
    have e : ks[i + d + 1]? = some ks[i + d + 1] := List.getElem?_eq_getElem (Nat.lt_trans (Nat.lt_succ_self _) hl)
    have h1 := g.mono hi d _ e
    have h2 := g.lt _ _ e
    have h3 := g.nx _ _ _ e h
    rw [h3]
    exact Int.le_trans h1 (Int.le_of_lt h2)
theorem VGood.after {ks : List K3} (g : VGood ks) {i j : Nat} {k k' : K3} (hij : i < j) (hi : ks[i]? = some k) (hj : ks[j]? = some k') : k.2.1 ≤ k'.1 := by
  obtain ⟨d, rfl⟩ : ∃ d, j = i + d + 1 := ⟨j - i - 1, by omega⟩
  exact g.mono hi d k' hj
theorem begun_iff {ks : List K3} {hour : Int} {n : Nat} : begunAt ks hour n = true ↔ ∃ t k, t < n ∧ ks[t]? = some k ∧ k.1 = hour := by
  unfold begunAt
  rw [List.any_eq_true]
  constructor
  · rintro ⟨k, hk, e⟩
    obtain ⟨t, ht, rfl⟩ := List.getElem_of_mem hk
    rw [List.length_take] at ht
    rw [List.getElem_take] at e
    exact ⟨t, _, by omega, List.getElem?_eq_getElem (by omega), by simpa using e⟩
  · rintro ⟨t, k, ht, hk, e⟩
    refine ⟨k, ?_, by simpa using e⟩
    have : (ks.take n)[t]? = some k := by rw [List.getElem?_take_of_lt ht]; exact hk
    exact List.mem_of_getElem? this
theorem VGood.begun0 {ks : List K3} (g : VGood ks) {j : Nat} {k' : K3} (hj : ks[j]? = some k') : begunAt ks 0 (j + 1) = true := by
  have hl := (List.getElem?_eq_some_iff.mp hj).1
  have e : ks[0]? = some ks[0] := List.getElem?_eq_getElem (by omega)
  exact begun_iff.mpr ⟨0, _, Nat.succ_pos _, e, g.z _ e⟩
theorem VGood.begun {ks : List K3} (g : VGood ks) {i j : Nat} {k k' : K3} (hi : ks[i]? = some k) (hj : ks[j]? = some k') : begunAt ks k.2.1 (j + 1) = decide (i < j) := by
  by_cases h : i < j
  · rw [decide_eq_true h]
    have hl := (List.getElem?_eq_some_iff.mp hj).1
    have e : ks[i + 1]? = some ks[i + 1] := List.getElem?_eq_getElem (by omega)
    exact begun_iff.mpr ⟨i + 1, _, by omega, e, g.nx _ _ _ hi e⟩
  · rw [decide_eq_false h]
    cases hb : begunAt ks k.2.1 (j + 1) with
    | false => rfl
    | true =>
      obtain ⟨t, kt, ht, hk, e⟩ := begun_iff.mp hb
      exfalso
      have h1 := g.lt _ _ hi
      rcases Nat.lt_or_eq_of_le (show t ≤ i by omega) with q | rfl
      · have h2 := g.after q hk hi
        have h3 := g.lt _ _ hk
        omega
      · rw [hi] at hk; cases hk; omega
/-- what the next search finds -/
def Nxt (ks : List K3) (xs : List Value) (a b : Int) (i : Nat) (r : Value) : Prop :=
  (r = .none ∧ ∀ (j : Nat) (k : K3), i ≤ j → ks[j]? = some k → gin a b k = false) ∨ ∃ (j : Nat) (k : K3), i ≤ j ∧ ks[j]? = some k ∧ xs[j]? = some r ∧ gin a b k = true ∧ ∀ (j' : Nat) (k' : K3), i ≤ j' → j' < j → ks[j']? = some k' → gin a b k' = false
theorem nxt_of {ks : List K3} {xs : List Value} {hour a b : Int} {i : Nat} {r : Value} (hb : ∀ j k, ks[j]? = some k → begunAt ks hour (j + 1) = decide (i ≤ j)) (p : SPost ks xs hour a b r) : Nxt ks xs a b i r := by
  have ht : ∀ j k, ks[j]? = some k → hitAt ks hour a b j k = (decide (i ≤ j) && gin a b k) := fun j k hk => by unfold hitAt; rw [hb j k hk]
  rcases p with ⟨rfl, h⟩ | ⟨j, k, hk, hx, h, hn⟩
  · refine .inl ⟨rfl, fun j k hij hk => ?_⟩
    have := h j k hk
    rw [ht j k hk, decide_eq_true hij] at this
    simpa using this
  · rw [ht j k hk] at h
    simp only [Bool.and_eq_true, decide_eq_true_eq] at h
    refine .inr ⟨j, k, h.1, hk, hx, h.2, fun j' k' hij hlt hk' => ?_⟩
    have := hn j' k' hlt hk'
    rw [ht j' k' hk', decide_eq_true hij] at this
    simpa using this
theorem VGood.nxt0 {ks : List K3} {xs : List Value} {a b : Int} {r : Value} (g : VGood ks) (p : SPost ks xs 0 a b r) : Nxt ks xs a b 0 r :=
  nxt_of (fun j k hk => by rw [g.begun0 hk]; rfl) p
theorem VGood.nxt {ks : List K3} {xs : List Value} {a b : Int} {i : Nat} {k : K3} {r : Value} (g : VGood ks) (hi : ks[i]? = some k) (p : SPost ks xs k.2.1 a b r) : Nxt ks xs a b (i + 1) r :=
  nxt_of (fun j k' hk => by rw [g.begun hi hk]; rfl) p
/-- what search_reverse finds: the last visit of one of two guests that is over by the hour -/
def Found (ks : List K3) (xs : List Value) (col a b : Int) (r : Value) : Prop :=
  (r = .none ∧ ∀ (j : Nat) (k : K3), ks[j]? = some k → gin a b k = true → col < k.2.1) ∨ ∃ (j : Nat) (k : K3), ks[j]? = some k ∧ xs[j]? = some r ∧ gin a b k = true ∧ k.2.1 ≤ col ∧ ∀ (j' : Nat) (k' : K3), j < j' → ks[j']? = some k' → gin a b k' = true → col < k'.2.1
/-- the same of the visits ahead of i, all over -/
def Last (ks : List K3) (xs : List Value) (a b : Int) (i : Nat) (r : Value) : Prop :=
  (r = .none ∧ ∀ (j : Nat) (k : K3), j < i → ks[j]? = some k → gin a b k = false) ∨ ∃ (j : Nat) (k : K3), j < i ∧ ks[j]? = some k ∧ xs[j]? = some r ∧ gin a b k = true ∧ ∀ (j' : Nat) (k' : K3), j < j' → j' < i → ks[j']? = some k' → gin a b k' = false

theorem IsSearch.ext {h h' : Heap} {se : Addr} {a b : Int} (x : IsSearch h se a b) (k : Ext h h') : IsSearch h' se a b := by
  obtain ⟨T, c', doc, ctv, pm, tk, c1, c2, t1, t2, n1, n2, n3, n4, n5, a1, a2, r, a3, a4⟩ := x
  exact ⟨T, c', doc, ctv, pm, tk, c1, c2, t1, t2, n1, n2, n3, n4, n5, a1.ext k n1, a2.ext k n2, codeRec_ext r k n3, a3.ext k n4, a4.ext k n5⟩
def IsProg (h : Heap) (p : Addr) (a b : Int) : Prop := ∃ dx fd se, p ∉ Tb ∧ dx ∉ Tb ∧ At h p (dObj { cls := .type "function", dict := some dx, data := .func fd }) ∧ At h dx (dNz 1 (lk [("search", .ref se)])) ∧ IsSearch h se a b
def RevJ (ks : List K3) (xs : List Value) (ga gb : Int) (p la : Addr) (col : Int) (tk : Tok) (m : Nat) (_ : Heap) (l : List (Str × Value)) (rest : Led) : Prop :=
  ∃ i k mv fv t1 t2, i + m = ks.length ∧ ks[i]? = some k ∧ xs[i]? = some mv ∧ gin ga gb k = true ∧ (∀ (j : Nat) (k' : K3), j < i → ks[j]? = some k' → gin ga gb k' = true → k'.2.1 ≤ col) ∧ Last ks xs ga gb i fv ∧
    lk l "prog" = some (.ref p) ∧ lk l "chars" = some (.ref la) ∧ lk l "col" = some (.int col tk) ∧ lk l "m" = some mv ∧ lk l "found" = some fv ∧ lk l "i" = some (.int k.1 t1) ∧ lk l "j" = some (.int k.2.1 t2) ∧ rest = []
theorem VGood.stop {ks : List K3} {xs : List Value} {col a b : Int} {i : Nat} {k : K3} {r : Value} (g : VGood ks) (hk : ks[i]? = some k) (hcol : col < k.2.1) (hL : Last ks xs a b i r)
    (hc : ∀ (j : Nat) (k' : K3), j < i → ks[j]? = some k' → gin a b k' = true → k'.2.1 ≤ col) : Found ks xs col a b r := by
  have far : ∀ (j : Nat) (k' : K3), i ≤ j → ks[j]? = some k' → col < k'.2.1 := fun j k' hij hj => by
    rcases Nat.lt_or_eq_of_le hij with q | rfl
    · have h1 := g.after q hk hj
      have h2 := g.lt _ _ hj
      omega
    · rw [hk] at hj; cases hj; exact hcol
  rcases hL with ⟨rfl, h⟩ | ⟨j, k', hj, hk', hx, hg', hn⟩
  · refine .inl ⟨rfl, fun j k' hk' hg' => far j k' (Nat.le_of_not_lt fun q => ?_) hk'⟩
    rw [h j k' q hk'] at hg'; cases hg'
  · refine .inr ⟨j, k', hk', hx, hg', hc j k' hj hk' hg', fun j' k'' hjj hk'' hg'' => far j' k'' (Nat.le_of_not_lt fun q => ?_) hk''⟩
    rw [hn j' k'' hjj q hk''] at hg''; cases hg''
theorem s_rev {w : World} {A : Around} {h : Heap} {p la : Addr} {xs : List Value} {ks : List K3} {col ga gb : Int} {tk : Tok} {n u : Nat} (ao : AOk A n u) (hn : n ≤ 400) (K : KIn w.params h) (T : Tabs h) (hp : IsProg h p ga gb)
    (hl : At h la (dList xs)) (hT : la ∉ Tb) (hx : Are (IsV h) xs ks) (hg : VGood ks) :
    Does w A (call (.ref 37) [.ref p, .ref la, .int col tk] []) h fun r new _ => new = [] ∧ Found ks xs col ga gb r := by
  intro Q E g d t os q
  have hrl : (500 : Nat) < recursionLimit := by decide
  have hn1 : Nat.blt (n + 1) recursionLimit = true := Nat.ble_eq_true_of_le (by omega)
  have hn0 : Nat.blt n recursionLimit = true := Nat.ble_eq_true_of_le (by omega)
  obtain ⟨pm, hf⟩ := fa37 K
  obtain ⟨dx, fd, se, np, ndx, Dp, Ddx, hs⟩ := hp
  have hs' := hs
  obtain ⟨T0, c', doc, ctv, pm', tk0, cc1, cc2, tt1, tt2, nse, nT0, nc', _, _, Dse, DT0, hcr, _, _⟩ := hs'
  refine enter (l := [("col", .int col tk), ("chars", .ref la), ("prog", .ref p)]) ao hn0 hf K T (ca37 K) (binds := [("prog", .ref p), ("chars", .ref la), ("col", .int col tk)]) (BindsTo.of_eq rfl) fun L h₁ t₁ A' E' a' S => ?_
  refine wpAny_execs_cons ?_
  repeat' wtm_at "mine w3"
  refine ⟨⟨_, S.old Dse nse⟩, s_search (hour := 0) (tk := 0) a' hn1 S.kinh S.tb (hs.ext S.keep) (S.old hl hT) hT (hx.mono fun _ _ z => z.ext S.keep) (.inr ⟨rfl, rfl⟩) _ _ _ _ _ _ fun v new h2 t2 X2 T2 N2 D2 P2 => ?_⟩
  obtain ⟨rfl, P2⟩ := P2
  have S2 := S.call X2 T2 N2 D2
  clear S
  have S := S2
  simp only [List.nil_append] at S
  clear S2
  rcases hg.nxt0 P2 with ⟨rfl, hno⟩ | ⟨i, k, _, hk, hv, hgi, hno⟩
  · repeat' wtm_at "mine w3"
    exact backS (new := []) (ExtT.refl _ _) S q ⟨rfl, .inl ⟨rfl, fun j k hk hgk => by rw [hno j k (Nat.zero_le _) hk] at hgk; cases hgk⟩⟩ (List.nil_sublist _)
  · obtain ⟨k', hk', V0⟩ := hx.get hv
    rw [hk] at hk'; cases hk'
    obtain ⟨D, rfl, V⟩ := V0
    have Df := V.f
    have nf := V.nf
    have Dd := V.dx
    have nd := V.ndx
    repeat' wtm_at "mine w3"
    refine ⟨⟨_, S.old V.sp V.nsp⟩, s_span a' hn1 S.kinh S.tb (S.old V.sp V.nsp) (codeRec_ext V.cr S.keep V.nc) (S.old V.c1 V.n1) (S.old V.c2 V.n2) V.n1 V.n2 _ _ _ _ _ _ fun v new h3 t3' X3 T3 N3 D3 P3 => ?_⟩
    obtain ⟨T4, rfl, rfl⟩ := P3
    have S4 := S.call X3 T3 N3 D3
    clear S
    have S := S4
    simp only [List.cons_append, List.nil_append] at S
    refine o_unpack a'.hd S (S.mem .head) rfl rfl fun h5 S => ?_
    repeat' wtm_at "mine w_un"
    repeat' wtm_at "mine w3"
    have hil : i < ks.length := (List.getElem?_eq_some_iff.mp hk).1
    refine r_while (B := h) (k := ks.length - i) (rest := []) (RevJ ks xs ga gb p la col tk) S.tl ?_ ?_
    · exact ⟨i, k, .ref D.f, .none, _, _, by omega, hk, hv, hgi, fun (j : Nat) (k' : K3) hj hk' hg' => absurd hg' (by rw [hno j k' (Nat.zero_le _) hj hk']; exact Bool.false_ne_true), .inl ⟨rfl, fun (j : Nat) (k' : K3) hj hk' => hno j k' (Nat.zero_le _) hj hk'⟩, by wtm_at "mine w_lk", by wtm_at "mine w_lk", by wtm_at "mine w_lk", by wtm_at "mine w_lk", by wtm_at "mine w_lk", by wtm_at "mine w_lk", by wtm_at "mine w_lk", rfl⟩
    clear S S4 V Df nf Dd nd hno hgi hv hk hil
    rintro m B' l' rest' h' t' E'' Post Pe ⟨i, k, mv, fv, t1, t2, hm, hk, hv, hgi, hc, hL, e1, e2, e3, e4, e5, e6, e7, rfl⟩ X S pn pb pr pe
    have hlt := hg.lt _ _ hk
    obtain ⟨k', hk', V0⟩ := hx.get hv
    rw [hk] at hk'; cases hk'
    obtain ⟨D, rfl, V⟩ := V0.ext X
    simp only [List.nil_append] at S
    have Dp' := Dp.ext X np
    have Ddx' := Ddx.ext X ndx
    have Dse' := Dse.ext X nse
    repeat' wtm_at "mine w3"
    · exfalso
      have hh : (k.1 == k.2.1) = true := by assumption
      have := eq_of_beq hh
      omega
    · have hcol : k.2.1 ≤ col := by assumption
      refine ⟨⟨_, S.old Dse' nse⟩, s_search (hour := k.2.1) (tk := _) a' hn1 S.kinh S.tb ((hs.ext X).ext S.keep) (S.old (hl.ext X hT) hT) hT (hx.mono fun _ _ z => (z.ext X).ext S.keep) (.inl rfl) _ _ _ _ _ _ fun v new h2 t2' X2 T2 N2 D2 P2 => ?_⟩
      obtain ⟨rfl, P2⟩ := P2
      have S2 := S.call X2 T2 N2 D2
      clear S
      have S := S2
      simp only [List.nil_append] at S
      clear S2
      rcases hg.nxt hk P2 with ⟨rfl, hno⟩ | ⟨i2, k2, hi2, hk2, hv2, hg2, hno⟩
      · repeat' wtm_at "mine w3"
        refine pb _ ?_
        repeat' wtm_at "mine w3"
        refine backS (new := []) X S q ⟨rfl, .inr ⟨i, k, hk, hv, hgi, hcol, fun j' k'' hjj hk'' hg'' => ?_⟩⟩ (List.nil_sublist _)
        rw [hno j' k'' hjj hk''] at hg''; cases hg''
      · obtain ⟨k2', hk2', W0⟩ := hx.get hv2
        rw [hk2] at hk2'; cases hk2'
        obtain ⟨G, rfl, W⟩ := W0.ext X
        have Gf := W.f
        have gf := W.nf
        have Gd := W.dx
        have gd := W.ndx
        repeat' wtm_at "mine w3"
        refine ⟨⟨_, S.old W.sp W.nsp⟩, s_span a' hn1 S.kinh S.tb (S.old W.sp W.nsp) (codeRec_ext W.cr S.keep W.nc) (S.old W.c1 W.n1) (S.old W.c2 W.n2) W.n1 W.n2 _ _ _ _ _ _ fun v new h3 t3' X3 T3 N3 D3 P3 => ?_⟩
        obtain ⟨T4, rfl, rfl⟩ := P3
        have S4 := S.call X3 T3 N3 D3
        clear S
        have S := S4
        simp only [List.cons_append, List.nil_append] at S
        refine o_unpack a'.hd S (S.mem .head) rfl rfl fun h5 S => ?_
        repeat' wtm_at "mine w_un"
        repeat' wtm_at "mine w3"
        have hil := (List.getElem?_eq_some_iff.mp hk2).1
        refine pn _ (m - (i2 - i)) _ _ B' _ [] (.inl rfl) (by omega) (ExtT.refl _ _) S.tl ⟨i2, k2, .ref G.f, .ref D.f, _, _, by omega, hk2, hv2, hg2, fun (j : Nat) (k' : K3) hj hk' hg' => ?_, .inr ⟨i, k, by omega, hk, hv, hgi, fun (j' : Nat) (k' : K3) h1 h2 hk' => hno j' k' h1 h2 hk'⟩, by wtm_at "mine w_lk", by wtm_at "mine w_lk", by wtm_at "mine w_lk", by wtm_at "mine w_lk", by wtm_at "mine w_lk", by wtm_at "mine w_lk", by wtm_at "mine w_lk", rfl⟩
        rcases Nat.lt_or_ge j i with q | q
        · exact hc j k' q hk' hg'
        · rcases Nat.lt_or_eq_of_le q with q | rfl
          · rw [hno j k' q hj hk'] at hg'; cases hg'
          · rw [hk] at hk'; cases hk'; exact hcol
    · refine pe _ ?_
      repeat' wtm_at "mine w3"
      exact backS (new := []) X S q ⟨rfl, hg.stop hk (by omega) hL hc⟩ (List.nil_sublist _)
    · refine pe _ ?_
      repeat' wtm_at "mine w3"
      exact backS (new := []) X S q ⟨rfl, hg.stop hk (by omega) hL hc⟩ (List.nil_sublist _)

noncomputable def cmS : { x // x = nestOf (bd72.1)[0]? } := ⟨_, rfl⟩
abbrev cmQ : Str := "_law_lately.<locals>.compare"
theorem s_lately {w : World} {A : Around} {h : Heap} {v₁ v₂ : Value} {n u : Nat} (a : AOk A n u) (hn : Nat.blt n recursionLimit = true) (K : KIn w.params h) (T : Tabs h) :
    Does w A (call (.ref 72) [v₁, v₂] []) h fun r new h' => ∃ f c1 c2 c' doc ctv, r = .ref f ∧ h'.CodeRec (.ref c') cmQ ∧ c' ∉ Tb ∧
      new = [(f, dObj (fnMade "compare" cmQ cmS.1.1 cmS.1.2.1 cmS.1.2.2 [("visits", c1), ("hour", c2)] doc (pmOf w) c' ctv)), (c2, dCell (some v₂)), (c1, dCell (some v₁))] := by
  intro Q E g d t os q
  obtain ⟨pm, hf⟩ := fa72 K
  refine enterC a hn hf K T (ca72 K) (binds := [("visits", v₁), ("hour", v₂)]) (cls := fun L => [("hour", L + 2), ("visits", L + 1)]) (led := fun L => [(L + 2, dCell (some v₂)), (L + 1, dCell (some v₁))]) (l := []) rfl (fun _ => rfl) (fun _ => rfl) rfl (fun L h₁ t₁ A' E' a' S => ?_) (fun _ => rfl)
  simp only [List.cons_append, List.nil_append] at S
  refine wpAny_execs_cons ?_
  refine r_FunctionDef (sp := sp67) (qual := cmQ) (clos := [("visits", L + 1), ("hour", L + 2)]) S (cd71 S.kinh) (by decide) rfl rfl rfl rfl (by decide) rfl rfl rfl fun st c2 ctv2 doc2 B2 h3 t3 X3 hc3 r3 S => ?_
  repeat' wtm_at "mine w3"
  exact backS X3 S q ⟨st, L + 1, L + 2, c2, doc2, ctv2, rfl, codeRec_ext r3 S.keep hc3, hc3, rfl⟩ (by wtm_at "mine m_sl")
/-- the last visit of one of two guests that is over by the hour -/
def lastOf (ks : List K3) (col a b : Int) : Option K3 := (ks.filter fun k => gin a b k && decide (k.2.1 ≤ col)).getLast?
/-- what the comparison answers -/
def cmpF (ks : List K3) (col a b : Int) : Int := match lastOf ks col a b with
  | none => 0
  | some k => if k.2.2 = a then -1 - col.fmod 2 else 1 + col.fmod 2

theorem last_of {ks : List K3} {xs : List Value} {col a b : Int} {r : Value} (f : Found ks xs col a b r) : (r = .none ∧ lastOf ks col a b = none) ∨ ∃ (j : Nat) (k : K3), ks[j]? = some k ∧ xs[j]? = some r ∧ lastOf ks col a b = some k := by
  unfold lastOf
  rcases f with ⟨rfl, h⟩ | ⟨j, k, hk, hx, hg, hc, hn⟩
  · refine .inl ⟨rfl, ?_⟩
    rw [List.getLast?_eq_none_iff, List.filter_eq_nil_iff]
    intro k hk
    obtain ⟨j, hj, rfl⟩ := List.getElem_of_mem hk
    have := h j _ (List.getElem?_eq_getElem hj)
    cases hg : gin a b ks[j] with
    | false => simp
    | true => have := this hg; simp; omega
  · refine .inr ⟨j, k, hk, hx, ?_⟩
    have hl := (List.getElem?_eq_some_iff.mp hk).1
    have e : ks = ks.take j ++ k :: ks.drop (j + 1) := by
      have : ks[j] = k := (List.getElem?_eq_some_iff.mp hk).2
      rw [← this, ← List.drop_eq_getElem_cons hl, List.take_append_drop]
    have tl : (ks.drop (j + 1)).filter (fun k => gin a b k && decide (k.2.1 ≤ col)) = [] := by
      rw [List.filter_eq_nil_iff]
      intro k' hk'
      obtain ⟨t, ht, rfl⟩ := List.getElem_of_mem hk'
      rw [List.getElem_drop]
      have hb : j + 1 + t < ks.length := by rw [List.length_drop] at ht; omega
      have := hn (j + 1 + t) _ (by omega) (List.getElem?_eq_getElem hb)
      cases hg : gin a b ks[j + 1 + t] with
      | false => simp
      | true => have := this hg; simp; omega
    rw [e, List.filter_append, List.filter_cons_of_pos (by rw [hg]; simpa using hc), tl, List.getLast?_append]
    rfl

theorem IsProg.ext {h h' : Heap} {p : Addr} {a b : Int} (x : IsProg h p a b) (k : Ext h h') : IsProg h' p a b :=
  let ⟨dx, fd, se, n1, n2, a, b, r⟩ := x; ⟨dx, fd, se, n1, n2, a.ext k n1, b.ext k n2, r.ext k⟩
theorem s_compare {w : World} {A : Around} {h : Heap} {f c1 c2 c' la : Addr} {doc pm ctv : Value} {xs : List Value} {ks : List K3} {hour : Int} {th : Tok} {a b : Int} {ta tb : Tok} {n u : Nat} (ao : AOk A n u) (hn : n ≤ 360) (K : KIn w.params h) (T : Tabs h)
    (hf : At h f (dFun (fnX "compare" cmQ cmS.1.1 cmS.1.2.1 cmS.1.2.2 [("visits", c1), ("hour", c2)] .none .none doc pm none (.ref c') ctv))) (hc : h.CodeRec (.ref c') cmQ) (D1 : At h c1 (dCell (some (.ref la)))) (D2 : At h c2 (dCell (some (.int hour th)))) (n1 : c1 ∉ Tb) (n2 : c2 ∉ Tb)
    (hl : At h la (dList xs)) (hT : la ∉ Tb) (hx : Are (IsV h) xs ks) (hg : VGood ks) :
    Does w A (call (.ref f) [.int a ta, .int b tb] []) h fun r new _ => new = [] ∧ ∃ t, r = .int (cmpF ks hour a b) t := by
  intro Q E g d t os q
  have hrl : (500 : Nat) < recursionLimit := by decide
  have hn1 : Nat.blt (n + 1) recursionLimit = true := Nat.ble_eq_true_of_le (by omega)
  have hn0 : Nat.blt n recursionLimit = true := Nat.ble_eq_true_of_le (by omega)
  refine enter (l := [("two", .int b tb), ("one", .int a ta)]) ao hn0 hf K T hc (binds := [("one", .int a ta), ("two", .int b tb)]) (BindsTo.of_eq rfl) fun L h₁ t₁ A' E' a' S => ?_
  refine wpAny_execs_cons ?_
  repeat' wtm_at "mine w5"
  refine ⟨let ⟨_, hf⟩ := fa65 S.kinh; ⟨_, hf⟩, s_program a' hn1 S.kinh S.tb _ _ _ _ _ _ fun v new h2 t2 X2 T2 N2 E2 P2 => ?_⟩
  obtain ⟨p, dx, se, T0, k', fd, doc2, ctv2, tk, cc1, cc2, rfl, hcr, hcT, rfl⟩ := P2
  have S2 := S.call X2 T2 N2 E2
  clear S
  obtain ⟨B1, X1, r1, S3⟩ := S2.learn hcr hcT
  obtain ⟨B2, Y2, F2, S⟩ := S3.frz (List.Perm.refl _)
  have Y := X1.trans Y2
  have D1' := D1.ext Y n1
  have D2' := D2.ext Y n2
  repeat' wtm_at "mine w5"
  have ff := fun i (p : Addr × (Obj → Prop)) (h : _) => F2 p (List.mem_of_getElem? (i := i) h)
  have f0 := ff 0 _ rfl
  have f1 := ff 1 _ rfl
  have f2 := ff 2 _ rfl
  have f3 := ff 3 _ rfl
  have f4 := ff 4 _ rfl
  have f5 := ff 5 _ rfl
  have hp : IsProg B2 p a b := ⟨dx, fd, se, f1.2, f0.2, f1.1, f0.1,
    T0, k', doc2, ctv2, pmOf w, tk, cc1, cc2, ta, tb, f2.2, f3.2, hcT, f5.2, f4.2, fnAt f2.1, f3.1, codeRec_ext r1 Y2 hcT, f5.1, f4.1⟩
  refine ⟨let ⟨_, hf⟩ := fa37 S.kinh; ⟨_, hf⟩, s_rev (tk := th) a' (by omega) S.kinh S.tb (hp.ext S.keep) (S.old (hl.ext Y hT) hT) hT (hx.mono fun _ _ z => (z.ext Y).ext S.keep) hg _ _ _ _ _ _ fun v new h3 t3 X3 T3 N3 E3 P3 => ?_⟩
  obtain ⟨rfl, P3⟩ := P3
  have S5 := S.call X3 T3 N3 E3
  clear S
  have S := S5
  simp only [List.nil_append] at S
  rcases last_of P3 with ⟨rfl, he⟩ | ⟨j, k, hk, hv, he⟩
  · repeat' wtm_at "mine w5"
    exact backS (new := []) Y S q ⟨rfl, _, by unfold cmpF; rw [he]; rfl⟩ (List.nil_sublist _)
  · obtain ⟨k', hk', V0⟩ := hx.get hv
    rw [hk] at hk'; cases hk'
    obtain ⟨D, rfl, V⟩ := V0.ext Y
    have Df := V.f
    have nf := V.nf
    have Dd := V.dx
    have nd := V.ndx
    repeat' wtm_at "mine w5"
    · have hh : (k.2.2 == a) = true := by assumption
      have e : cmpF ks hour a b = -1 - hour.fmod 2 := by unfold cmpF; rw [he]; exact if_pos (eq_of_beq hh)
      exact backS (new := []) Y S q ⟨rfl, _, by rw [e]; rfl⟩ (List.nil_sublist _)
    · have hh : (k.2.2 == a) = false := by assumption
      have e : cmpF ks hour a b = 1 + hour.fmod 2 := by unfold cmpF; rw [he]; exact if_neg (ne_of_beq_false hh)
      exact backS (new := []) Y S q ⟨rfl, _, by rw [e]; rfl⟩ (List.nil_sublist _)
theorem cmp_c {w : World} {h : Heap} {f c1 c2 c' la : Addr} {doc pm ctv : Value} {xs : List Value} {ks : List K3} {hour : Int} {th : Tok} (K : KIn w.params h) (nf : f ∉ Tb) (nc : c' ∉ Tb)
    (hf : At h f (dFun (fnX "compare" cmQ cmS.1.1 cmS.1.2.1 cmS.1.2.2 [("visits", c1), ("hour", c2)] .none .none doc pm none (.ref c') ctv))) (hc : h.CodeRec (.ref c') cmQ) (D1 : At h c1 (dCell (some (.ref la)))) (D2 : At h c2 (dCell (some (.int hour th)))) (n1 : c1 ∉ Tb) (n2 : c2 ∉ Tb)
    (hl : At h la (dList xs)) (hT : la ∉ Tb) (hx : Are (IsV h) xs ks) (hg : VGood ks) : CmpC w f h (cmpF ks hour) :=
  ⟨⟨_, hf⟩, nf, fun h' A n u a b ta tb Y ao hn hu T => s_compare ao hn (K.keeps Y) T (hf.ext Y nf) (codeRec_ext hc Y nc) (D1.ext Y n1) (D2.ext Y n2) n1 n2 (hl.ext Y hT) hT (hx.mono fun _ _ z => z.ext Y) hg⟩

inductive Runs (o : Nat → Nat → Bool) (n : Nat) {α : Type} : KasT α → α → Prop
  | ret (a : α) : Runs o n (.ret a) a
  | ask {i j : Nat} {k : Bool → KasT α} {a : α} (hi : i < n) (hj : j < n) (r : Runs o n (k (o i j)) a) : Runs o n (.ask i j k) a
/-- a run of the tree, where each question is answered by o -/
theorem Runs.wp {o : Nat → Nat → Bool} {n : Nat} {α : Type} {cmp : Nat → Nat → (Bool → Shared → Prop) → Shared → Prop} (I : Shared → Prop) (hc : ∀ i j C s, i < n → j < n → I s → (∀ s', I s' → C (o i j) s') → cmp i j C s)
    {Q : α → Shared → Prop} {t : KasT α} {a : α} (r : Runs o n t a) : ∀ {s : Shared}, I s → (∀ s', I s' → Q a s') → t.kasWp cmp Q s := by
  induction r with
  | ret a => intro s hi q; exact q s hi
  | ask hi hj r ih => intro s h q; exact hc _ _ _ _ hi hj h fun s' h' => ih h' q
/-- the tree, with its questions answered by o -/
def kasRun (o : Nat → Nat → Bool) (n : Nat) {α : Type} : KasT α → Option α
  | .ret a => some a
  | .ask i j k => bif i.blt n && j.blt n then kasRun o n (k (o i j)) else none
theorem runs_of {o : Nat → Nat → Bool} {n : Nat} {α : Type} {a : α} : ∀ {t : KasT α}, kasRun o n t = some a → Runs o n t a
  | .ret b, h => by cases h; exact .ret _
  | .ask i j k, h => by
    unfold kasRun at h
    cases hb : (i.blt n && j.blt n) with
    | false => rw [hb] at h; cases h
    | true =>
      rw [hb] at h
      rw [Bool.and_eq_true] at hb
      exact .ask (Nat.le_of_ble_eq_true hb.1) (Nat.le_of_ble_eq_true hb.2) (runs_of h)
/-- the last of two guests -/
def who (ov : List Int) (a b : Int) : Option Int := (ov.filter fun x => x == a || x == b).getLast?
def isLs (ov : List Int) (a b : Int) : Bool := who ov a b == some a
def isGt (ov : List Int) (a b : Int) : Bool := match who ov a b with
  | none => false
  | some x => !(x == a)
def toFront (row : List Int) (g : Int) : List Int := g :: row.filter fun x => !(x == g)
def addLeft (l : List Int) (g : Int) : List Int := if l.any (· == g) then l else l ++ [g]
def leftOf (ov : List Int) : List Int := ov.reverse.foldl addLeft []
def standOf (r : Nat) : List Int := [0, 1, 2].drop r ++ [0, 1, 2].take r
def dueOf (ov st : List Int) : List Int := leftOf ov ++ st.filter fun x => !(leftOf ov).any (· == x)
def chk (ov : List Int) (r : Nat) : Bool :=
  let st := standOf r
  let due := dueOf ov st
  (match kasRun (fun i j => isLs ov (st.getD i 0) (st.getD j 0)) 3 (kas_sort 3) with
    | none => false
    | some p => p.size == 3 && p.toList.all (fun i => i.blt 3) && (p.toList.map fun i => st.getD i 0) == due) &&
  due.length == 3 && ov.foldl toFront st == due && ov.foldl toFront [] == leftOf ov && isGt ov (due.getD 2 0) (due.getD 0 0) == !ov.isEmpty
def rows : Nat → List (List Int)
  | 0 => [[]]
  | n + 1 => [] :: (rows n).flatMap fun l => [0 :: l, 1 :: l, 2 :: l]
theorem mem_rows : ∀ (n : Nat) (l : List Int), l.length ≤ n → (∀ x ∈ l, x = 0 ∨ x = 1 ∨ x = 2) → l ∈ rows n
  | 0, [], _, _ => .head _
  | 0, _ :: _, h, _ => absurd h (Nat.not_succ_le_zero _)
  | n + 1, [], _, _ => .head _
  | n + 1, x :: l, h, hx => by
    refine .tail _ (List.mem_flatMap.mpr ⟨l, mem_rows n l (Nat.le_of_succ_le_succ h) fun y hy => hx y (.tail _ hy), ?_⟩)
    rcases hx x (.head _) with rfl | rfl | rfl <;> simp
abbrev chk3 (ov : List Int) : Bool := chk ov 0 && chk ov 1 && chk ov 2
theorem chk_n : chk3 [] = true := by decide +kernel
theorem chk_0 : ((rows 4).all fun l => chk3 (0 :: l)) = true := by decide +kernel
theorem chk_1 : ((rows 4).all fun l => chk3 (1 :: l)) = true := by decide +kernel
theorem chk_2 : ((rows 4).all fun l => chk3 (2 :: l)) = true := by decide +kernel

section
variable {w : World} {A : Around} {E : Value → Shared → Prop} {B h : Heap} {g : Array GenState} {d : Drawn} {t : Nat} {os : OsState} {own own' : Led} {a L la f : Addr} {vs : List Value} {n u : Nat} {o : Nat → Nat → Bool} {p : Array Nat} {KP : Heap → Nat → Value → Prop}
/-- keys of a sort: what is known of key i in a base -/
def KeysAre (KP : Heap → Nat → Value → Prop) (B : Heap) (ks : List Value) : Prop := ∀ i k, ks[i]? = some k → KP B i k
theorem get_upd {h : Heap} {a : Addr} {m : Nat} {xs ys : List Value} (fn : Array Value → Array Value) (hf : fn xs.toArray = ys.toArray) (ho : h.get? a = some (seqObj "list" xs.toArray m)) :
    ∃ m', (h.update a (Obj.mapSeq fn)).get? a = some (seqObj "list" ys.toArray m') := ⟨_, by rw [get?_update_seq ho fn, hf]⟩
theorem sort_tail {D kS : Addr} {ks : List Value} {e1 : Nat} {st : SortSt} {P : PySem.Fin → Shared → Prop} (S : St w B h ((kS, dList ks) :: (D, dObj (seqObj "list" #[] e1)) :: own)) (hk : ks.length = vs.length) (h64 : vs.length < 64)
    (hp : p.size = vs.length) (har : arrOf st = p.map (kas_item (ks.toArray.zip vs.toArray))) (hlt : ∀ i ∈ p.toList, i < vs.length) (hfl : failedOf st = none)
    (q : ∀ h', St w B h' ((D, dList (p.toList.map fun i => vs.getD i Value.none)) :: own) → P (.done (.ret .none)) ⟨h', g, d, t, os⟩) :
    wpM w A (ksk_tail D false e1 (.ref kS) st) P E ⟨h, g, d, t, os⟩ := by
  obtain ⟨_ok, ek, nk, rfl⟩ := S.mem .head
  obtain ⟨oD, eD, rD⟩ := S.mem (.tail .head)
  have rD : oD = seqObj "list" #[] e1 := rD
  subst rD
  have hout : (arrOf st).map (·.2) = List.toArray (p.toList.map fun i => vs.getD i Value.none) := by
    apply Array.toList_inj.mp
    rw [har, Array.map_map, Array.toList_map]
    refine List.map_congr_left fun i hi => ?_
    have h1 := hlt i hi
    have hz : i < (ks.toArray.zip vs.toArray).size := by rw [Array.size_zip]; simp; omega
    show (kas_item (ks.toArray.zip vs.toArray) i).2 = _
    unfold kas_item
    rw [Array.getD_eq_getD_getElem?]
    rw [Array.getElem?_eq_getElem hz]
    simp [h1]
  have s1 := Heap.SameBut.update h kS (Obj.mapSeq fun _ => (#[] : Array Value))
  obtain ⟨m1, g1⟩ := get_upd (xs := ks) (ys := []) (fun _ => #[]) rfl ek
  have S1 := S.upd (dd' := dList []) .head nc_list s1 ⟨_, g1, m1, rfl⟩
  have eD1 := (S1.mem (.tail .head))
  obtain ⟨oD', eD', rD'⟩ := eD1
  have rD' : oD' = seqObj "list" #[] e1 := rD'
  subst rD'
  have s2 := Heap.SameBut.update (h.update kS (Obj.mapSeq fun _ => (#[] : Array Value))) D (Obj.mapSeq fun _ => List.toArray (p.toList.map fun i => vs.getD i Value.none))
  obtain ⟨m2, g2⟩ := get_upd (xs := []) (ys := p.toList.map fun i => vs.getD i Value.none) (fun _ => List.toArray (p.toList.map fun i => vs.getD i Value.none)) rfl eD'
  have S2 := S1.upd (dd' := dList (p.toList.map fun i => vs.getD i Value.none)) (.tail .head) nc_list s2 ⟨_, g2, m2, rfl⟩
  have hsz : (List.toArray (p.toList.map fun i => vs.getD i Value.none)).size = vs.length := by rw [List.size_toArray, List.length_map, Array.length_toList, hp]
  unfold ksk_tail
  dsimp only
  rw [hout]
  refine wpAny_bind (listUpdate_at ek rfl ?_ (by rw [List.size_toArray, sizeLine_eq]; omega) (Nat.zero_le _))
  refine wpAny_bind (wpAny_letGo ?_)
  refine wpAny_bind (seqEpoch_at eD' rfl ?_)
  refine wpAny_bind (listUpdate_at eD' rfl ?_ (Nat.zero_le _) (by rw [if_neg Bool.false_ne_true]; exact Nat.le_trans (Nat.le_of_eq hsz) (by rw [sizeLine_eq]; omega)))
  rw [hfl]
  simp only [bne_self_eq_false, Bool.false_eq_true, if_false]
  exact wpAny_pure (q _ S2.tl)
/-- the keys are made: the sort proper -/
theorem sort_end {D kS : Addr} {ks : List Value} {e1 : Nat} {T : Value} {P : PySem.Fin → Shared → Prop} (S : St w B h ((kS, dList ks) :: (D, dObj (seqObj "list" #[] e1)) :: own)) (hk : ks.length = vs.length) (h2 : 2 ≤ vs.length) (h64 : vs.length < 64)
    (hK : KeysAre KP B ks) (rn : Runs o vs.length (kas_sort vs.length) p) (psz : p.size = vs.length) (plt : ∀ i ∈ p.toList, i < vs.length)
    (typ : ∀ i k h', KP B i k → Ext B h' → Looks (model Pr w) h' (typeOf k) T) (hT1 : (T != Value.type "tuple") = true) (hT2 : (T == T) = true)
    (cmpC : ∀ h' i j ki kj, Ext B h' → Tabs h' → KP B i ki → KP B j kj → Does w A (keyLt' oneType' ki kj) h' (fun b _ _ => b = o i j))
    (q : ∀ h' t', St w B h' ((D, dList (p.toList.map fun i => vs.getD i Value.none)) :: own) → P (.done (.ret .none)) ⟨h', g, d, t', os⟩) :
    wpM w A (ksk_end D false vs.toArray e1 (.ref kS) ks.toArray) P E ⟨h, g, d, t, os⟩ := by
  have hz : (ks.toArray.zip vs.toArray).size = vs.length := by rw [Array.size_zip]; simp; omega
  unfold ksk_end
  dsimp only
  rw [if_neg Bool.false_ne_true]
  have hn2 : ¬ vs.toArray.size < 2 := by rw [List.size_toArray]; omega
  rw [if_neg hn2, if_neg hn2]
  refine wpAny_bind (kas_kind (by omega) (fun v hv => ?_) hT1 hT2 ?_)
  · obtain ⟨i, hi, rfl⟩ := List.getElem_of_mem hv
    exact typ i _ h (hK i _ (List.getElem?_eq_getElem hi)) S.keep
  have est : SortSt.mk' oneType' (if false = true then (ks.toArray.zip vs.toArray).reverse else ks.toArray.zip vs.toArray) #[] 7 none = kas_st oneType' (ks.toArray.zip vs.toArray) (List.toArray (List.range vs.length)) := by
    have e := kas_range (ks.toArray.zip vs.toArray)
    rw [hz] at e
    rw [if_neg Bool.false_ne_true]
    show SortSt.mk' oneType' (ks.toArray.zip vs.toArray) #[] 7 none = SortSt.mk' oneType' ((List.toArray (List.range vs.length)).map (kas_item (ks.toArray.zip vs.toArray))) #[] 7 none
    rw [e]
  have ask : (kas_sort vs.length).kasWp (kas_cmp Pr w A oneType' (ks.toArray.zip vs.toArray)) (fun p' s' => p' = p ∧ ∃ h' t', s' = ⟨h', g, d, t', os⟩ ∧ St w B h' ((kS, dList ks) :: (D, dObj (seqObj "list" #[] e1)) :: own)) ⟨h, g, d, t, os⟩ := by
    refine Runs.wp (I := fun s' => ∃ h' t', s' = ⟨h', g, d, t', os⟩ ∧ St w B h' ((kS, dList ks) :: (D, dObj (seqObj "list" #[] e1)) :: own)) ?_ rn ⟨_, _, rfl, S⟩ (fun s' z => ⟨rfl, z⟩)
    rintro i j C s hi hj ⟨h', t', rfl, S'⟩ c
    have it : ∀ i, i < vs.length → ∃ k, ks[i]? = some k ∧ (kas_item (ks.toArray.zip vs.toArray) i).1 = k := fun i hi => by
      have hi' : i < ks.length := by omega
      refine ⟨ks[i], List.getElem?_eq_getElem hi', ?_⟩
      unfold kas_item
      rw [Array.getD_eq_getD_getElem?, Array.getElem?_eq_getElem (by omega)]
      simp
    obtain ⟨ki, e1, e2⟩ := it i hi
    obtain ⟨kj, e3, e4⟩ := it j hj
    show wpAny _ _ (keyLt' oneType' _ _) _ _ _
    rw [e2, e4]
    refine cmpC h' i j ki kj S'.keep S'.tb (hK i ki e1) (hK j kj e3) _ _ _ _ _ _ fun b new h2 t2 X2 T2 N2 D2 P2 => ?_
    subst P2
    exact c _ ⟨h2, t2, rfl, (S'.call X2 T2 N2 D2).sublist (List.sublist_append_right _ _)⟩
  have run := kas_runs (E := E) (Q := fun _ st' s' => arrOf st' = p.map (kas_item (ks.toArray.zip vs.toArray)) ∧ failedOf st' = none ∧ ∃ h' t', s' = ⟨h', g, d, t', os⟩ ∧ St w B h' ((kS, dList ks) :: (D, dObj (seqObj "list" #[] e1)) :: own))
    h2 h64 (fun p' st' s' a1 a2 a3 a4 => by obtain ⟨rfl, a4⟩ := a4; exact ⟨a2, a3, a4⟩) ask
  rw [← est] at run
  refine wpAny_bind (wpAny_mono run ?_ fun _ _ e => e)
  rintro ⟨⟨⟩, st'⟩ s' ⟨har, hf, h', t', rfl, S'⟩
  dsimp only
  exact sort_tail S' hk h64 psz har plt hf fun h'' S'' => q h'' t' S''
theorem o_sorted {T : Value} {Q : Value → Shared → Prop} (ao : AOk A n u) (S : St w B h own) (hl : h.IsList la vs.toArray) (h2 : 2 ≤ vs.length) (h64 : vs.length < 64) (rn : Runs o vs.length (kas_sort vs.length) p) (psz : p.size = vs.length) (plt : ∀ i ∈ p.toList, i < vs.length)
    (mono : ∀ {B B' : Heap} {i v}, Ext B B' → KP B i v → KP B' i v)
    (keyC : ∀ A' h' i v, AOk A' n (u + 2) → Ext B h' → Tabs h' → vs[i]? = some v → Does w A' (call (.ref f) [v] []) h' (fun r new _ => ∀ B', Ext B B' → (∀ p ∈ new, At B' p.1 p.2 ∧ p.1 ∉ Tb) → KP B' i r))
    (typ : ∀ B' i k h', Ext B B' → KP B' i k → Ext B' h' → Looks (model Pr w) h' (typeOf k) T) (hT1 : (T != Value.type "tuple") = true) (hT2 : (T == T) = true)
    (cmpC : ∀ A' B' h' i j ki kj, AOk A' n (u + 2) → Ext B B' → Ext B' h' → Tabs h' → KP B' i ki → KP B' j kj → Does w A' (keyLt' oneType' ki kj) h' (fun b _ _ => b = o i j))
    (q : ∀ D B' h' t', Ext B B' → St w B' h' ((D, dList (p.toList.map fun i => vs.getD i Value.none)) :: own) → Q (.ref D) ⟨h', g, d, t', os⟩) :
    wpM w A (call (.builtin "sorted") [.ref la] [(Str.ofString "key", .ref f)]) Q E ⟨h, g, d, t, os⟩ := by
  have hz : vs.length ≤ sizeLine := by rw [sizeLine_eq]; omega
  refine call_function_entry_kw kind_sorted plain_sorted entry_sorted (ksk_s1 _ _) ?_
  unfold Builtin.«sorted»
  refine wpAny_bind (m := checkCount "sorted" 1 1 _) (wpAny_pure ?_)
  refine wpAny_bind (collect_list hl ?_ hz)
  have keep : ∀ b o, h.get? b = some o → ((h.push (seqObj "list" #[] 0)).update h.objs.size (Obj.mapSeq (· ++ vs.toArray))).get? b = some o := fun b o q => by
    have hlt : b < h.objs.size := Heap.lt_size q
    rw [Heap.get?_update_ne _ _ _ _ (Nat.ne_of_lt hlt), Heap.get?_push_ne _ _ _ (Nat.ne_of_lt hlt)]
    exact q
  have S1 := S.keeps keep
  generalize (h.push (seqObj "list" #[] 0)).update h.objs.size (Obj.mapSeq (· ++ vs.toArray)) = h1 at S1 ⊢
  refine wpAny_bind (wpAny_newList ?_ (by exact hz))
  have S2 : St w B (h1.push (seqObj "list" vs.toArray 0)) ((h1.objs.size, dObj (seqObj "list" vs.toArray 0)) :: own) := S1.alloc rfl nc_seq rfl
  show wpAny _ _ _ _ _ ⟨h1.push (seqObj "list" vs.toArray 0), g, d, t, os⟩
  generalize h1.push (seqObj "list" vs.toArray 0) = h2' at S2 ⊢
  generalize h1.objs.size = D at S2 ⊢
  obtain ⟨oD, eD, rD⟩ := S2.mem .head
  have rD : oD = seqObj "list" vs.toArray 0 := rD
  subst rD
  refine wpAny_bind (wpAny_holding (wpAny_call_entry_kw slot_list_sort ⟨_, eD, rfl⟩ entry_list_sort ?body (ksk_l1 _ _)))
  case body =>
    show wpAny (model Pr w) A.in1.in1 (Builtin.«list.sort» ⟨[.ref D], [(Str.ofString "key", .ref f)]⟩) _ _ _
    rw [ksk_t1]
    have ao2 : AOk A.in1.in1 n (u + 2) := ao.in1.in1
    unfold ksk_tree
    refine wpAny_bind (listItems_at eD rfl ?_)
    refine wpAny_bind (listUpdate_at eD rfl ?_ (by rw [List.size_toArray]; exact hz) (Nat.zero_le _))
    have s1 := Heap.SameBut.update h2' D (Obj.mapSeq fun _ => (#[] : Array Value))
    obtain ⟨e1, g1⟩ := get_upd (xs := vs) (ys := []) (fun _ => #[]) rfl eD
    have S3 := S2.upd (dd' := dObj (seqObj "list" #[] e1)) .head nc_seq s1 ⟨_, g1, rfl⟩
    refine wpAny_bind (seqEpoch_at g1 rfl ?_)
    refine wpAny_bind (wpAny_newTuple ?_ (by exact hz))
    have S4 := S3.alloc (o := { cls := .type "tuple", data := .seq vs.toArray 0 }) (dd := dTup vs) ⟨0, rfl⟩ nc_tup rfl
    refine wpAny_bind (wpAny_newList ?_ (Nat.zero_le _))
    have S5 := S4.tl
    have S6 := (S4.alloc (o := { cls := .type "list", data := .seq #[] 0 }) (dd := dList []) ⟨0, rfl⟩ nc_list rfl)
    refine wpAny_holding ?_
    unfold ksk_rest
    refine wpAny_bind (wpAny_rule ?_)
    first
      | rw [List.forIn_toArray]
      | (rw [← Array.forIn_toList]; simp only [List.toList_toArray])
      | rw [← Array.forIn_toList]
    generalize (h2'.update D (Obj.mapSeq fun _ => (#[] : Array Value))).push { cls := .type "tuple", data := .seq vs.toArray 0 } = h4 at S6 ⊢
    have S7 : St w B (h4.push { cls := .type "list", data := .seq #[] 0 }) ((h4.objs.size, dList []) :: (D, dObj (seqObj "list" #[] e1)) :: own) := S6.sublist (.cons_cons _ (.cons _ (List.Sublist.refl _)))
    refine wpAny_bind (ksk_fold (fun i s' => ∃ h' t' B' ks, s' = ⟨h', g, d, t', os⟩ ∧ Ext B B' ∧ St w B' h' ((h4.objs.size, dList ks) :: (D, dObj (seqObj "list" #[] e1)) :: own) ∧ ks.length = i ∧ KeysAre KP B' ks) vs 0 _
      ⟨_, _, B, [], rfl, ExtT.refl _ _, S7, rfl, fun i k hk => by simp at hk⟩ ?step ?done)
    case step =>
      rintro j x s' hx ⟨h', t', B', ks, rfl, X, S', hk, hK⟩
      simp only [Nat.zero_add] at hk ⊢
      have hj : j < vs.length := (List.getElem?_eq_some_iff.mp hx).1
      refine wpAny_bind (wpAny_attempt (keyC _ h' j x ao2 (X.trans S'.keep) S'.tb hx _ _ _ _ _ _ fun r new h'' t'' X2 T2 N2 D2 P2 => ?_))
      have S8 := S'.call X2 T2 N2 D2
      obtain ⟨B2, Y, F2, S9⟩ := S8.frz (List.Perm.refl _)
      have hkp := P2 B2 (X.trans Y) F2
      obtain ⟨_ok, ek, nk, rfl⟩ := S9.mem .head
      have s2 := Heap.SameBut.update h'' h4.objs.size (Obj.mapSeq (·.push r))
      obtain ⟨m2, g2⟩ := get_upd (xs := ks) (ys := ks ++ [r]) (·.push r) (by simp) ek
      have S10 := S9.upd (dd' := dList (ks ++ [r])) .head nc_list s2 ⟨_, g2, m2, rfl⟩
      refine wpAny_bind (listUpdate_at ek rfl ?_ (by rw [List.size_toArray]; omega) (by rw [Array.size_push, List.size_toArray]; omega))
      refine wpAny_pure ⟨rfl, _, _, B2, ks ++ [r], rfl, X.trans Y, S10, by rw [List.length_append, hk]; rfl, fun i k hi => ?_⟩
      rw [List.getElem?_append] at hi
      split at hi
      · exact mono Y (hK i k hi)
      · rename_i hge
        have : i = j := by
          have := (List.getElem?_eq_some_iff.mp hi).1
          simp at this; omega
        subst this
        rw [hk, Nat.sub_self] at hi
        simp at hi
        subst hi
        exact hkp
    case done =>
      rintro s' ⟨h', t', B', ks, rfl, X, S', hk, hK⟩
      rw [Nat.zero_add] at hk
      obtain ⟨_ok, ek, nk, rfl⟩ := S'.mem .head
      dsimp only
      refine wpAny_bind (listItems_at ek rfl ?_)
      refine sort_end (KP := KP) S' hk h2 h64 hK rn psz plt (fun i k h'' z x => typ B' i k h'' X z x) hT1 hT2 (fun h'' i j ki kj x T z1 z2 => cmpC _ B' h'' i j ki kj ao2 X x T z1 z2) fun h'' t'' S'' => ?_
      exact ⟨_, rfl, wpAny_pure ⟨_, rfl, q D B' h'' t'' X S''⟩⟩
end

section
variable {w : World} {A : Around} {E : Value → Shared → Prop} {B h : Heap} {g : Array GenState} {d : Drawn} {t : Nat} {os : OsState} {own own' : Led} {a L la it : Addr} {xs : List Value} {n u : Nat}
variable {cn : Str} {cs sc : Scope} {cd : Value} {cl cl₀ : List (Str × Addr)} {f : Addr}
theorem comp_coreN {elt iter : Expr} {tn : Str} {tp pos : Pos} {ifs : List Expr} {RR : Value → Addr → Result → Shared → Prop} (J : Nat → List Value → Heap → Prop) (ha : A.handled = none) (S : St w B h own) (hla : At B la (dList xs)) (hT : la ∉ Tb) (j0 : J 0 [] B)
    (turn : ∀ i v ys B' l' D C it h' t' E', xs[i]? = some v → J i ys B' → Ext B B' → St w B' h' ((C, dNs (lk l')) :: (D, dList ys) :: (it, dLIt la (i + 1)) :: own) →
      wpM w A (assign (.Name tn tp) (envK sc cl C cn cs L f cd cl₀) v) (fun _ s₂ =>
        wpM w A (forIn ifs true fun c r => if r = true then do let ok ← isTrue c (envK sc cl C cn cs L f cd cl₀) (eval c (envK sc cl C cn cs L f cd cl₀)); pure (ForInStep.yield ok) else pure (ForInStep.yield r)) (fun ok s₃ =>
          if ok = true then wpM w A (eval elt (envK sc cl C cn cs L f cd cl₀)) (fun y s₄ => ∃ h'' t'' B'' l'', s₄ = ⟨h'', g, d, t'', os⟩ ∧ Ext B' B'' ∧ St w B'' h'' ((C, dNs (lk l'')) :: (D, dList ys) :: (it, dLIt la (i + 1)) :: own) ∧ ys.length ≤ sizeLine ∧ J (i + 1) (ys ++ [y]) B'') E' s₃
          else ∃ h'' t'' B'' l'', s₃ = ⟨h'', g, d, t'', os⟩ ∧ Ext B' B'' ∧ St w B'' h'' ((C, dNs (lk l'')) :: (D, dList ys) :: (it, dLIt la (i + 1)) :: own) ∧ J (i + 1) ys B'') E' s₂) E' ⟨h', g, d, t', os⟩)
    (done : ∀ ys B' l' D C h' t', J xs.length ys B' → Ext B B' → St w B' h' ((C, dNs (lk l')) :: (D, dList ys) :: own) → RR (.ref D) C (.ok .next) ⟨h', g, d, t', os⟩)
    (hcell : ∀ y ∈ sc.names, y.2 ≠ .cell) (hkind : sc.kind = .function) :
    wpM w A (pyIter (.ref la)) (fun it s₂ => wpM w A (newList []) (fun acc s₃ => wpM w A (newFunctionEnv sc (envX cn cs L f cd cl₀).globals cl [] (envX cn cs L f cd cl₀).qual none .none (some (envX cn cs L f cd cl₀))) (fun cenv s₄ =>
      codeAny (model Pr w) A (.compStart (.ListComp elt [⟨.Name tn tp, iter, ifs, 0⟩] sc pos) 0 it acc { cenv with scope := relabel sc (envX cn cs L f cd cl₀) }) (RR acc cenv.locals) s₄) E s₃) E s₂) E ⟨h, g, d, t, os⟩ := by
  refine wpAny_pyIter_list (S.old hla hT).list ?_
  have S1 : St w B (h.push { cls := .type "list_iterator", data := .fields #[.ref la, .int 0 0] }) ((h.objs.size, dLIt la 0) :: own) := S.alloc (dd := dLIt la 0) ⟨rfl, rfl⟩ nc_lit rfl
  generalize h.push { cls := .type "list_iterator", data := .fields #[.ref la, .int 0 0] } = h1 at S1 ⊢
  refine wpAny_newObj_type (wpAny_newFunctionEnv hcell (by intro y hy; simp at hy) (fun h₂ hns₂ hsb₂ => ?_) hkind)
  dsimp only at hns₂ hsb₂ ⊢
  have S2 : St w B (h1.push { cls := .type "list", dict := none, data := .seq ([] : List Value).toArray }) ((h1.objs.size, dList []) :: (h.objs.size, dLIt la 0) :: own) := S1.alloc (dd := dList []) ⟨0, rfl⟩ nc_list rfl
  generalize h1.push { cls := .type "list", dict := none, data := .seq ([] : List Value).toArray } = h2 at S2 hns₂ hsb₂ ⊢
  have S3 := S2.newAt (dd := dNs (lk [])) (h₁ := h₂) (fun b o e => hsb₂.extBut b o (Nat.ne_of_lt (Heap.lt_size e)) (Heap.get?_push_of_some _ e)) (At.of_ns hns₂) nc_ns
  generalize h2.objs.size = C at S3 ⊢
  generalize h1.objs.size = D at S3 ⊢
  generalize h.objs.size = it at S3 ⊢
  have loop : ∀ s₃ : Shared, (∃ tk, s₃ = ⟨h₂, g, d, tk, os⟩) →
      codeAny (model Pr w) A (.compLoop (.ListComp elt [⟨.Name tn tp, iter, ifs, 0⟩] sc pos) 0 (.ref it) (.ref D) (envK sc cl C cn cs L f cd cl₀)) (RR (.ref D) C) s₃ := by
    rintro s₃ ⟨tk, rfl⟩
    refine codeAny_compLoop_tests (fun k s' => ∃ i h' t' B' l' ys, k + i = xs.length ∧ s' = ⟨h', g, d, t', os⟩ ∧ Ext B B' ∧ St w B' h' ((C, dNs (lk l')) :: (D, dList ys) :: (it, dLIt la i) :: own) ∧ J i ys B') ?_ xs.length
      ⟨0, _, _, B, [], [], rfl, rfl, ExtT.refl _ _, S3, j0⟩
    rintro k s' ⟨i, h', t', B', l', ys, hki, rfl, X, S', j⟩
    have hl' : At h' la (dList xs) := (hla.ext X hT).ext S'.keep hT
    cases hv : xs[i]? with
    | none =>
      have hi : i = xs.length := by have := List.getElem?_eq_none_iff.mp hv; omega
      subst hi
      refine wpAny_pyNext_list_end (items := xs.toArray) ha (S'.mem (.tail (.tail .head))).lit hl'.list (by simpa using hv) fun h₃ x₃ => ?_
      have S4 := S'.perm (List.perm_middle (l₁ := [_, _]))
      exact done ys B' l' D C h₃ t' j X (S4.lose x₃)
    | some v =>
      have hlt : i < xs.length := (List.getElem?_eq_some_iff.mp hv).1
      refine wpAny_pyNext_list_item (items := xs.toArray) (S'.mem (.tail (.tail .head))).lit hl'.list (by simpa using hv) fun h₃ i₃ x₃ => ?_
      have S4 := S'.upd (dd' := dLIt la (i + 1)) (.tail (.tail .head)) nc_lit x₃ i₃
      refine wpAny_mono (turn i _ ys B' l' D C it h₃ t' _ hv j X S4) (fun _ s₄ z => ?_) fun _ _ e => e
      refine wpAny_mono z (fun ok s₅ z => ?_) fun _ _ e => e
      cases ok with
      | false =>
        obtain ⟨h5, t5, B5, l5, rfl, X5, S5, j5⟩ := z
        exact ⟨k - 1, by omega, i + 1, h5, t5, B5, l5, ys, by omega, rfl, X.trans X5, S5, j5⟩
      | true =>
        refine wpAny_mono z (fun y s₆ z => ?_) fun _ _ e => e
        obtain ⟨h5, t5, B5, l5, rfl, X5, S5, hz, j5⟩ := z
        refine o_append S5 (.tail .head) hz fun h6 S6 => ?_
        exact ⟨k - 1, by omega, i + 1, h6, t5, B5, l5, _, by omega, rfl, X.trans X5, S6, j5⟩
  refine codeAny_compStart_list (loop _ ⟨_, rfl⟩) (wpAny_pyIter_listiter (S3.mem (.tail (.tail .head))).lit (loop _ ⟨_, rfl⟩))
/-- [elt for a, b in xs if test], the value -/
theorem r_ListCompN {elt iter : Expr} {tn : Str} {tp pos : Pos} {ifs : List Expr} {Q : Value → Shared → Prop} (J : Nat → List Value → Heap → Prop) (ha : A.handled = none) (S : St w B h own) (hla : At B la (dList xs)) (hT : la ∉ Tb) (j0 : J 0 [] B)
    (hiter : ∀ Q' : Value → Shared → Prop, Q' (.ref la) ⟨h, g, d, t, os⟩ → wpM w A (eval iter (envX cn cs L f cd cl₀)) Q' E ⟨h, g, d, t, os⟩)
    (turn : ∀ i v ys B' l' D C it h' t' E', xs[i]? = some v → J i ys B' → Ext B B' → St w B' h' ((C, dNs (lk l')) :: (D, dList ys) :: (it, dLIt la (i + 1)) :: own) →
      wpM w A (assign (.Name tn tp) (envK sc cl C cn cs L f cd cl₀) v) (fun _ s₂ =>
        wpM w A (forIn ifs true fun c r => if r = true then do let ok ← isTrue c (envK sc cl C cn cs L f cd cl₀) (eval c (envK sc cl C cn cs L f cd cl₀)); pure (ForInStep.yield ok) else pure (ForInStep.yield r)) (fun ok s₃ =>
          if ok = true then wpM w A (eval elt (envK sc cl C cn cs L f cd cl₀)) (fun y s₄ => ∃ h'' t'' B'' l'', s₄ = ⟨h'', g, d, t'', os⟩ ∧ Ext B' B'' ∧ St w B'' h'' ((C, dNs (lk l'')) :: (D, dList ys) :: (it, dLIt la (i + 1)) :: own) ∧ ys.length ≤ sizeLine ∧ J (i + 1) (ys ++ [y]) B'') E' s₃
          else ∃ h'' t'' B'' l'', s₃ = ⟨h'', g, d, t'', os⟩ ∧ Ext B' B'' ∧ St w B'' h'' ((C, dNs (lk l'')) :: (D, dList ys) :: (it, dLIt la (i + 1)) :: own) ∧ J (i + 1) ys B'') E' s₂) E' ⟨h', g, d, t', os⟩)
    (done : ∀ ys B' D h' t', J xs.length ys B' → Ext B B' → St w B' h' ((D, dList ys) :: own) → Q (.ref D) ⟨h', g, d, t', os⟩)
    (hclos : closureFor sc (envX cn cs L f cd cl₀) = pure cl) (hs : ∀ x, foldedSetIterable iter (envX cn cs L f cd cl₀) x = pure x) (hcell : (sc.names.all fun y => y.2 != .cell) = true) (hkind : sc.kind = .function)
    (hnames : (sc.names.all fun y => y.2 != .local || decide (sc.names.lookup y.1 = some .local)) = true) :
    wpM w A (eval (.ListComp elt [⟨.Name tn tp, iter, ifs, 0⟩] sc pos) (envX cn cs L f cd cl₀)) Q E ⟨h, g, d, t, os⟩ := by
  rw [eval_ListComp]
  refine wpAny_comprehension_free (use := none) rfl hs hclos hkind (fun y hy hl => ?_) (hiter _ ?_)
  · have := List.all_eq_true.mp hnames y hy
    simpa [hl] using this
  · refine comp_coreN (RR := fun acc C => compPost (model Pr w) A E none Q acc C) J ha S hla hT j0 turn (fun ys B' l' D C h' t' j X S' => ?_) (fun y hy => ?_) hkind
    · exact ⟨_, (S'.mem .head).ns, fun h'' hs'' => done ys B' D h'' t' j X (S'.lose hs''.extBut)⟩
    · have := List.all_eq_true.mp hcell y hy
      simpa using this
/-- x = [elt for a, b in xs if test] -/
theorem r_AssignCompN {elt iter : Expr} {tn : Str} {tp pos spos py : Pos} {ifs : List Expr} {y : Str} {Q : Flow → Shared → Prop} (J : Nat → List Value → Heap → Prop) (ha : A.handled = none) (S : St w B h own) (hla : At B la (dList xs)) (hT : la ∉ Tb) (j0 : J 0 [] B)
    (hiter : ∀ Q' : Value → Shared → Prop, Q' (.ref la) ⟨h, g, d, t, os⟩ → wpM w A (eval iter (envX cn cs L f cd cl₀)) Q' E ⟨h, g, d, t, os⟩)
    (turn : ∀ i v ys B' l' D C it h' t' E', xs[i]? = some v → J i ys B' → Ext B B' → St w B' h' ((C, dNs (lk l')) :: (D, dList ys) :: (it, dLIt la (i + 1)) :: own) →
      wpM w A (assign (.Name tn tp) (envK sc cl C cn cs L f cd cl₀) v) (fun _ s₂ =>
        wpM w A (forIn ifs true fun c r => if r = true then do let ok ← isTrue c (envK sc cl C cn cs L f cd cl₀) (eval c (envK sc cl C cn cs L f cd cl₀)); pure (ForInStep.yield ok) else pure (ForInStep.yield r)) (fun ok s₃ =>
          if ok = true then wpM w A (eval elt (envK sc cl C cn cs L f cd cl₀)) (fun y s₄ => ∃ h'' t'' B'' l'', s₄ = ⟨h'', g, d, t'', os⟩ ∧ Ext B' B'' ∧ St w B'' h'' ((C, dNs (lk l'')) :: (D, dList ys) :: (it, dLIt la (i + 1)) :: own) ∧ ys.length ≤ sizeLine ∧ J (i + 1) (ys ++ [y]) B'') E' s₃
          else ∃ h'' t'' B'' l'', s₃ = ⟨h'', g, d, t'', os⟩ ∧ Ext B' B'' ∧ St w B'' h'' ((C, dNs (lk l'')) :: (D, dList ys) :: (it, dLIt la (i + 1)) :: own) ∧ J (i + 1) ys B'') E' s₂) E' ⟨h', g, d, t', os⟩)
    (l : List (Str × Value)) (ow : Addr → Led) (hu : ∀ D, LUp L (dNs (lk l)) (dNs (lk (setL y (.ref D) l))) own (ow D))
    (done : ∀ ys B' D h' t', J xs.length ys B' → Ext B B' → St w B' h' ((D, dList ys) :: ow D) → Q .next ⟨h', g, d, t', os⟩)
    (hsw : swapsWith (.ListComp elt [⟨.Name tn tp, iter, ifs, 0⟩] sc pos) (some (.Name y py)) spos.line (envX cn cs L f cd cl₀) = pure true)
    (hclos : closureFor sc (envX cn cs L f cd cl₀) = pure cl) (hs : ∀ x, foldedSetIterable iter (envX cn cs L f cd cl₀) x = pure x) (hcell : (sc.names.all fun y => y.2 != .cell) = true) (hkind : sc.kind = .function)
    (hnames : (sc.names.all fun y => y.2 != .local || decide (sc.names.lookup y.1 = some .local)) = true) (hk : cs.kind = .function) (hx : (envX cn cs L f cd cl₀).kindOf y = some .local) :
    wpM w A (exec (.Assign [.Name y py] (.ListComp elt [⟨.Name tn tp, iter, ifs, 0⟩] sc pos) spos) (envX cn cs L f cd cl₀)) Q E ⟨h, g, d, t, os⟩ := by
  show wpAny _ _ _ _ _ _
  rw [exec_Assign_Name_used _ _ _ _ hsw]
  refine wpAny_bind (wpAny_standAt (wpAny_bind ?_))
  show wpAny _ A (do let _ ← comprehension (.ListComp elt [⟨.Name tn tp, iter, ifs, 0⟩] sc pos) sc (envX cn cs L f cd cl₀) _ (newList []) false (eval iter (envX cn cs L f cd cl₀)) (some (assign (.Name y py) (envX cn cs L f cd cl₀)))) _ _ _
  refine wpAny_bind (wpAny_mono (wpAny_comprehension_free (use := some (assign (.Name y py) (envX cn cs L f cd cl₀))) (Q := fun _ s' => Q .next s') rfl hs hclos hkind (fun y hy hl => ?_) (hiter _ ?_)) (fun _ s' hq => wpAny_pure (wpAny_pure hq)) fun _ _ e => e)
  · have := List.all_eq_true.mp hnames y hy
    simpa [hl] using this
  · refine comp_coreN (RR := fun acc C => compPost (model Pr w) A E (some (assign (.Name y py) (envX cn cs L f cd cl₀))) (fun _ s' => Q .next s') acc C) J ha S hla hT j0 turn (fun ys B' l' D C h' t' j X S' => ?_) (fun y hy => ?_) hkind
    · show wpAny _ A (assign (.Name y py) (envX cn cs L f cd cl₀) (.ref D)) _ _ _
      refine wpAny_assign_Name (r_store S' (.tail (.tail (hu D))) (fun h'' t'' S'' => ?_) hk hx)
      exact ⟨_, (S''.mem .head).ns, fun h3 hs3 => done ys B' D h3 t'' j X (S''.lose hs3.extBut)⟩
    · have := List.all_eq_true.mp hcell y hy
      simpa using this
end

theorem k22 {P : Params} {h : Heap} (K : KIn P h) : ∃ o, h.get? 22 = some o ∧ o.cls ≠ .type "list" := ⟨_, K 22 _ rfl (by decide), fun e => absurd ((show Value.type "object" = (zo22 P).cls by kernel_rfl).trans e) (by decide)⟩
theorem k23 {P : Params} {h : Heap} (K : KIn P h) : At h 23 (dTup [.ref 22]) := ⟨_, K 23 _ rfl (by decide), 0, by kernel_rfl⟩
/-- what a reduce asks of its function -/
def RStep (w : World) (h : Heap) (fa : Addr) (xs : List Value) (n : Nat) (J : Nat → Value → Led → Prop) : Prop :=
  ∀ (A : Around) (h' : Heap) (i : Nat) (v x : Value) (new : Led) (u : Nat), AOk A n u → Ext h h' → Tabs h' → (∀ p ∈ new, At h' p.1 p.2 ∧ p.1 ∉ Tb) → J i v new → xs[i]? = some x →
    (∃ fd, At h' fa (dFun fd)) ∧ Does w A (call (.ref fa) [v, x] []) h' fun r new' _ => J (i + 1) r new'
theorem s_reduce {w : World} {A : Around} {h : Heap} {fa la : Addr} {xs : List Value} {args : List Value} {i₀ : Nat} {v₀ : Value} {n u : Nat} (J : Nat → Value → Led → Prop) (a : AOk A n u) (hn : Nat.blt (n + 1) recursionLimit = true) (K : KIn w.params h) (T : Tabs h)
    (hl : At h la (dList xs)) (hT : la ∉ Tb) (hargs : (args = [.ref fa, .ref la, v₀] ∧ i₀ = 0 ∧ ∃ a₀ ys, v₀ = .ref a₀ ∧ At h a₀ (dList ys) ∧ a₀ ∉ Tb) ∨ (args = [.ref fa, .ref la] ∧ i₀ = 1 ∧ xs[0]? = some v₀))
    (j0 : J i₀ v₀ []) (st : RStep w h fa xs (n + 1) J) :
    Does w A (call (.ref 30) args []) h fun r new _ => J xs.length r new := by
  intro Q E g d t os q
  have hn0 : Nat.blt n recursionLimit = true := Nat.ble_eq_true_of_le (by have := Nat.le_of_ble_eq_true hn; omega)
  obtain ⟨pm, hf⟩ := fa30 K
  have hb : BindsTo ⟨h, g, d, t, os⟩ (fnX "reduce" "reduce" ag30.1 bd30.1 sc30.1 [] (.ref 23) .none .none pm none (.ref 29) .none) ⟨args, []⟩ [("function", .ref fa), ("sequence", .ref la), ("initial", if i₀ = 0 then v₀ else .ref 22)] := by
    obtain ⟨o, ho, n0, e⟩ := k23 K
    rcases hargs with ⟨rfl, rfl, _⟩ | ⟨rfl, rfl, _⟩
    · exact BindsTo.of_defaults (T := 23) (o := o) (n := n0) rfl ho (by rw [e]) rfl rfl
    · exact BindsTo.of_defaults (T := 23) (o := o) (n := n0) rfl ho (by rw [e]) rfl rfl
  refine enter (l := [("initial", if i₀ = 0 then v₀ else .ref 22), ("sequence", .ref la), ("function", .ref fa)]) a hn0 hf K T (ca30 K) hb fun L h₁ t₁ A' E' a' S => ?_
  refine wpAny_execs_cons ?_
  repeat' wtm_at "mine w3"
  refine o_iter S (S.old hl hT) fun it h2 S => ?_
  repeat' wtm_at "mine w3"
  have loop : ∀ (h3 : Heap) (t3 : Nat) (l : List (Str × Value)), St w h h3 [(L, dNs (lk l)), (it, dLIt la i₀)] → lk l "it" = some (.ref it) → lk l "function" = some (.ref fa) → lk l "value" = some v₀ → i₀ ≤ xs.length →
      match bd30.1.drop 2 with
      | s :: r => wpM w A' (exec s (envX "reduce" sc30.1 L 30 (.ref 29) [])) (fun fl s' => match fl with | .next => wpM w A' (execs r (envX "reduce" sc30.1 L 30 (.ref 29) [])) (fun fl s' => Q (retv fl) s') E' s' | f => Q (retv f) s') E' ⟨h3, g, d, t3, os⟩
      | _ => True := by
    intro h3 t3 l S e1 e2 e3 hi
    show wpM w A' (exec (Stmt.For _ _ _ _ _) _) _ _ _
    refine for_iter (B := h) (rest := []) (fun i B' l' rest' => lk l' "function" = some (.ref fa) ∧ ∃ v, lk l' "value" = some v ∧ J i v rest') a' S hl hT hi ⟨e2, v₀, e3, j0⟩ (fun Q' q' => ?_) ?_ ?_
    · repeat' wtm_at "mine w3"
      exact q'
    · rintro i v B' l' rest' h' t' E'' Post hi ⟨f1, x, f2, j⟩ X S pn _ _
      obtain ⟨hfd, hd⟩ := st A' h' i x v rest' _ a' (X.trans S.keep) S.tb (fun p hp => ⟨(S.nw p (.tail _ (.tail _ hp))).1, (S.nw p (.tail _ (.tail _ hp))).2.2.1⟩) j hi
      repeat' wtm_at "mine w3"
      refine ⟨hfd, hd _ _ _ _ _ _ fun r new h4 t4 X4 T4 N4 D4 P4 => ?_⟩
      have S4 := S.call X4 T4 N4 D4
      clear S
      have S := S4.rot
      repeat' wtm_at "mine w3"
      exact pn _ _ _ B' _ new (.inl rfl) (ExtT.refl _ _) S ⟨by wtm_at "mine w_lk", r, by wtm_at "mine w_lk", P4⟩
    · rintro B' l' rest' h' t' ⟨f1, x, f2, j⟩ X S
      repeat' wtm_at "mine w3"
      exact backS X S q j (List.sublist_cons_self _ _)
  rcases hargs with ⟨rfl, rfl, a₀, ys, rfl, Da, nT⟩ | ⟨rfl, rfl, hx0⟩
  · simp only [if_true] at S ⊢
    obtain ⟨o22, e22, c22⟩ := k22 S.kinh
    obtain ⟨oa, ea, na, ra⟩ := S.old Da nT
    have hne : a₀ ≠ 22 := by
      rintro rfl
      rw [e22] at ea; cases ea
      exact c22 (by rw [ra])
    refine o_isOther hne ea e22 (by rw [ra]; exact of_decide_eq_true rfl) ?_
    repeat' wtm_at "mine w3"
    refine loop _ _ _ S.swap (by wtm_at "mine w_lk") (by wtm_at "mine w_lk") (by wtm_at "mine w_lk") (Nat.zero_le _)
  · simp only [if_neg (show ¬ (1 = 0) by decide)] at S ⊢
    refine o_isSelf ?_
    repeat' wtm_at "mine w3"
    refine wpAny_Try_except ?_
    repeat' wtm_at "mine w3"
    refine o_next S .head (S.old hl hT) hx0 fun h5 S => ?_
    repeat' wtm_at "mine w3"
    refine loop _ _ _ S.swap (by wtm_at "mine w_lk") (by wtm_at "mine w_lk") (by wtm_at "mine w_lk") (by have := (List.getElem?_eq_some_iff.mp hx0).1; omega)

section
open PySem.SeqAt
section
variable {w : World} {A : Around} {E : Value → Shared → Prop} {B h : Heap} {g : Array GenState} {d : Drawn} {t : Nat} {os : OsState} {own own' : Led} {a L la it : Addr} {xs : List Value} {n u : Nat}
/-- for target in a list that is made for it -/
theorem for_new {target iter : Expr} {body : List Stmt} {env : Env} {pos : Pos} {Q : Flow → Shared → Prop}
    (J : List Value → Nat → Heap → Led → Prop) (a : AOk A n u)
    (hiter : wpM w A (eval iter env) (fun v s' => ∃ la xs h' t' B' rest, v = .ref la ∧ s' = ⟨h', g, d, t', os⟩ ∧ Ext B B' ∧ At B' la (dList xs) ∧ la ∉ Tb ∧ St w B' h' rest ∧ J xs 0 B' rest) E ⟨h, g, d, t, os⟩)
    (turn : ∀ xs i v la B' rest' it h' t' E' (Post : Flow → Shared → Prop), xs[i]? = some v → J xs i B' rest' → Ext B B' → St w B' h' ((it, dLIt la (i + 1)) :: rest') →
      (∀ fl h'' t'' B'' rest'', fl = .next ∨ fl = .cont → Ext B' B'' → St w B'' h'' ((it, dLIt la (i + 1)) :: rest'') → J xs (i + 1) B'' rest'' → Post fl ⟨h'', g, d, t'', os⟩) → (∀ s', Q .next s' → Post .brk s') → (∀ v s', Q (.ret v) s' → Post (.ret v) s') →
      wpM w A (assign target env v) (fun _ s₁ => wpM w A (execs body env) Post E' s₁) E' ⟨h', g, d, t', os⟩)
    (done : ∀ xs B' rest' h' t', J xs xs.length B' rest' → Ext B B' → St w B' h' rest' → Q .next ⟨h', g, d, t', os⟩)
    (hs : ∀ v, foldedSetIterable iter env v = pure v) (ht : ∀ it v, letOwnedTupleGo target it v = pure ()) :
    wpM w A (exec (.For target iter body [] pos) env) Q E ⟨h, g, d, t, os⟩ := by
  refine wpAny_For (wpAny_mono hiter (fun v s' z => ?_) fun _ _ e => e) hs
  obtain ⟨la, xs, h₀, t₀, B₀, rest, rfl, rfl, X₀, hla, hT, S, j0⟩ := z
  refine wpAny_pyIter_list (S.old hla hT).list ?_
  have S1 : St w B₀ (h₀.push { cls := .type "list_iterator", data := .fields #[.ref la, .int 0 0] }) ((h₀.objs.size, dLIt la 0) :: rest) := S.alloc (dd := dLIt la 0) ⟨rfl, rfl⟩ nc_lit rfl
  refine codeAny_forLoop (fun k s' => ∃ i h' t' B' rest', k + i = xs.length ∧ s' = ⟨h', g, d, t', os⟩ ∧ Ext B₀ B' ∧ St w B' h' ((h₀.objs.size, dLIt la i) :: rest') ∧ J xs i B' rest') ?_ xs.length
    ⟨0, _, _, B₀, rest, rfl, rfl, ExtT.refl _ _, S1, j0⟩ (fun v => ht _ v)
  rintro k s' ⟨i, h', t', B', rest', hki, rfl, X, S', j⟩
  have hl' : At h' la (dList xs) := (hla.ext X hT).ext S'.keep hT
  cases hv : xs[i]? with
  | none =>
    have hi : i = xs.length := by have := List.getElem?_eq_none_iff.mp hv; omega
    subst hi
    refine wpAny_pyNext_list_end (items := xs.toArray) a.hd (S'.mem .head).lit hl'.list (by simpa using hv) fun h₂ x₂ => wpAny_execs_nil ?_
    exact done xs B' rest' h₂ t' j (X₀.trans X) (S'.lose x₂)
  | some v =>
    refine wpAny_pyNext_list_item (items := xs.toArray) (S'.mem .head).lit hl'.list (by simpa using hv) fun h₂ i₂ x₂ => ?_
    have S2 := S'.upd (dd' := dLIt la (i + 1)) .head nc_lit x₂ i₂
    have hlt : i < xs.length := (List.getElem?_eq_some_iff.mp hv).1
    refine turn xs i v la B' rest' _ h₂ t' _ _ hv j (X₀.trans X) S2 (fun fl h₅ t₅ B₅ r₅ e X₅ S₅ j₅ => ?_) (fun _ z => z) (fun _ _ z => z)
    rcases e with rfl | rfl <;> exact ⟨k - 1, by omega, i + 1, h₅, t₅, B₅, r₅, by omega, rfl, X.trans X₅, S₅, j₅⟩
theorem any_ints {i : Int} : ∀ {xs : List Value} {ns : List Int}, IntsAre xs ns → xs.any (fun y => match y with | .int j _ => j == i | _ => false) = ns.any (· == i)
  | _, _, .nil => rfl
  | _, _, .cons j tk r => by rw [List.any_cons, List.any_cons, any_ints r]
theorem o_notIn {i : Int} {ti : Tok} {ns : List Int} {Q : Value → Shared → Prop} (hl : At h la (dList xs)) (hi : IntsAre xs ns) (q : Q (.bool (!ns.any (· == i))) ⟨h, g, d, t, os⟩) : wpM w A (compareOp .NotIn (.int i ti) (.ref la)) Q E ⟨h, g, d, t, os⟩ := by
  refine notIn_listAt (items := xs.toArray) (fun y => match y with | .int j _ => j == i | _ => false) hl.list (fun y hy => ?_) (by
    rw [← any_ints hi] at q
    simpa using q)
  have hy' : y ∈ xs := by simpa using hy
  obtain ⟨m, tk, rfl⟩ := hi.all y hy'
  exact EqAt.int_int _ _ _ _
end

end
theorem s_hours {w : World} {A : Around} {h : Heap} {la : Addr} {xs : List Value} {ks : List K3} {n u : Nat} (a : AOk A n u) (hn : Nat.blt n recursionLimit = true) (K : KIn w.params h) (T : Tabs h)
    (hl : At h la (dList xs)) (hT : la ∉ Tb) (hx : Are (IsV h) xs ks) (hz : xs.length ≤ 5) :
    Does w A (call (.ref 58) [.ref la] []) h fun r new _ => ∃ ha hs ns, r = .ref ha ∧ new = [(ha, dList hs)] ∧ IntsAre hs ns ∧ hs.length ≤ 11 := by
  intro Q E g d t os q
  obtain ⟨pm, hf⟩ := fa58 K
  refine enter a hn hf K T (ca58 K) (binds := [("visits", .ref la)]) (l := [("visits", .ref la)]) (BindsTo.of_eq rfl) fun L h₁ t₁ A' E' a' S => ?_
  refine wpAny_execs_cons ?_
  repeat' wtm_at "mine w5"
  obtain ⟨ha, rfl⟩ : ∃ x, x = a := ⟨a, rfl⟩
  refine for_gen (B := h) (fun i B' rest' => ∃ hs ns l, lk l "visits" = some (.ref la) ∧ lk l "hours" = some (.ref ha) ∧ rest' = [(ha, dList hs), (L, dNs (lk l))] ∧ IntsAre hs ns ∧ hs.length ≤ 1 + 2 * i) a' S hl hT ?_ (fun Q' q' => ?_) ?_ ?_ (fun _ => rfl) (fun _ _ => rfl)
  · exact ⟨_, [0], _, by wtm_at "mine w_lk", by wtm_at "mine w_lk", rfl, .cons _ _ .nil, Nat.le_refl _⟩
  · repeat' wtm_at "mine w5"
    exact q'
  · rintro i v B' rest' it h' t' E'' Post hv ⟨hs, ns, l, j1, j2, rfl, j3, j4⟩ X S pn _ _
    obtain ⟨k, hk, V0⟩ := hx.get hv
    obtain ⟨D, rfl, V⟩ := V0.ext X
    have Df := V.f
    have nf := V.nf
    have Dd := V.dx
    have ndx := V.ndx
    have hi5 : i < 5 := by have := (List.getElem?_eq_some_iff.mp hv).1; omega
    refine wpAny_assign_Name ?_
    wtm_at "mine w_store"
    refine wpAny_execs_cons ?_
    refine for_new (B := B') (fun ys j B'' rest'' => ∃ t1 t2 hs ns l, ys = [.int (k.2.1 - 1) t1, .int k.2.1 t2] ∧ lk l "visits" = some (.ref la) ∧ lk l "hours" = some (.ref ha) ∧ rest'' = [(it, dLIt la (i + 1)), (ha, dList hs), (L, dNs (lk l))] ∧ IntsAre hs ns ∧ hs.length ≤ 1 + 2 * i + j) a' ?_ ?_ ?_ (fun _ => rfl) (fun _ _ => rfl)
    · repeat' wtm_at "mine w5"
      obtain ⟨lb, rfl⟩ : ∃ x, x = a := ⟨a, rfl⟩
      obtain ⟨B1, X1, F1, S⟩ := S.frz (new := [_]) (own' := [_, _, _]) (List.Perm.refl _)
      exact ⟨_, _, _, _, B1, _, rfl, rfl, X1, (F1 _ (.head _)).1, (F1 _ (.head _)).2, S, _, _, hs, ns, _, rfl, by wtm_at "mine w_lk", by wtm_at "mine w_lk", rfl, j3, j4⟩
    · rintro ys j v lb B2 rest2 it2 h2 t2 E2 Post2 hv2 ⟨t1, t2, hs, ns, l, rfl, j1, j2, rfl, j3, j4⟩ X2 S pn2 _ _
      have hj : j < 2 := (List.getElem?_eq_some_iff.mp hv2).1
      have hvi : ∃ m tm, v = .int m tm := by
        have : j = 0 ∨ j = 1 := by omega
        rcases this with rfl | rfl <;> (cases hv2; exact ⟨_, _, rfl⟩)
      obtain ⟨m, tm, rfl⟩ := hvi
      refine wpAny_assign_Name ?_
      wtm_at "mine w_store"
      refine wpAny_execs_cons ?_
      repeat' wtm_at "mine w5"
      refine o_notIn (S.mem (by wtm_at "mine m_lm")) j3 ?_
      repeat' wtm_at "mine w5"
      · refine o_append S (by wtm_at "mine m_lu") (by rw [sizeLine_eq]; omega) fun h5 S => ?_
        repeat' wtm_at "mine w5"
        exact pn2 _ _ _ B2 _ (.inl rfl) (ExtT.refl _ _) S ⟨_, _, _, _, _, rfl, by wtm_at "mine w_lk", by wtm_at "mine w_lk", rfl, j3.append (.cons m tm .nil), by rw [List.length_append]; simp; omega⟩
      · exact pn2 _ _ _ B2 _ (.inl rfl) (ExtT.refl _ _) S ⟨_, _, _, _, _, rfl, by wtm_at "mine w_lk", by wtm_at "mine w_lk", rfl, j3, by omega⟩
    · rintro ys B2 rest2 h2 t2 ⟨t1, t2, hs, ns, l, rfl, j1, j2, rfl, j3, j4⟩ X2 S
      repeat' wtm_at "mine w5"
      exact pn _ _ _ B2 _ (.inl rfl) X2 S ⟨_, _, _, j1, j2, rfl, j3, by simp at j4; omega⟩
  · rintro B' rest' h' t' ⟨hs, ns, l, j1, j2, rfl, j3, j4⟩ X S
    repeat' wtm_at "mine w5"
    exact backS X S q ⟨_, _, _, rfl, rfl, j3, by omega⟩ (by wtm_at "mine m_sl")

theorem s_front {w : World} {A : Around} {h : Heap} {la : Addr} {xs : List Value} {ns : List Int} {gg : Int} {tg : Tok} {n u : Nat} (a : AOk A n u) (hn : Nat.blt n recursionLimit = true) (K : KIn w.params h) (T : Tabs h)
    (hl : At h la (dList xs)) (hT : la ∉ Tb) (hx : IntsAre xs ns) (hz : xs.length ≤ 1000) :
    Does w A (call (.ref 77) [.ref la, .int gg tg] []) h fun r new _ => ∃ ha hs, r = .ref ha ∧ new = [(ha, dList hs)] ∧ IntsAre hs (toFront ns gg) := by
  intro Q E g d t os q
  obtain ⟨pm, hf⟩ := fa77 K
  refine enterC a hn hf K T (ca77 K) (binds := [("row", .ref la), ("guest", .int gg tg)]) (cls := fun L => [("guest", L + 1)]) (led := fun L => [(L + 1, dCell (some (.int gg tg)))]) (l := [("row", .ref la)]) rfl (fun _ => rfl) (fun _ => rfl) rfl (fun L h₁ t₁ A' E' a' S => ?_) (fun _ => rfl)
  simp only [List.cons_append, List.nil_append] at S
  refine wpAny_execs_cons ?_
  repeat' wtm_at "mine w5"
  refine r_ListCompN (xs := xs) (fun j ys Bc => IntsAre ys ((ns.take j).filter fun x => !(x == gg))) (AOk.hd a') S hl hT .nil (fun Q' q' => ?_) ?_ ?_ rfl (fun _ => rfl) rfl rfl rfl
  · repeat' wtm_at "mine w5"
    exact q'
  · rintro j v ys B4 l4 D4 C4 it4 h4 t4 E4 hv4 j10 X4 S
    obtain ⟨m, tm, rfl, hm⟩ := hx.at j v hv4
    have htk : ns.take (j + 1) = ns.take j ++ [m] := by rw [List.take_add_one, hm]; rfl
    have hyl : ys.length ≤ sizeLine := by
      have h1 := j10.length
      have h2 := List.length_filter_le (fun x => !(x == gg)) (ns.take j)
      have h3 := List.length_take_le' j ns
      have h5 := hx.length
      rw [sizeLine_eq]; omega
    refine wpAny_assign_Name ?_
    repeat' wtm_at "mine w5"
    · have hne : (m != gg) = true := by assumption
      refine ⟨_, _, B4, _, rfl, ExtT.refl _ _, S, hyl, ?_⟩
      rw [htk, List.filter_append, List.filter_cons_of_pos (p := fun x => !(x == gg)) hne]
      exact j10.append (.cons m tm .nil)
    · have hne : (m != gg) = false := by assumption
      refine ⟨_, _, B4, _, rfl, ExtT.refl _ _, S, ?_⟩
      rw [htk, List.filter_append, List.filter_cons_of_neg (p := fun x => !(x == gg)) (fun z => Bool.noConfusion (hne.symm.trans z))]
      simpa using j10
  · rintro ys B4 D4 h4 t4 j10 X4 S
    have hw : ns.take xs.length = ns := by rw [hx.length, List.take_length]
    rw [hw] at j10
    have hyl : ys.length ≤ 1000 := by
      have h1 := j10.length
      have h2 := List.length_filter_le (fun x => !(x == gg)) ns
      have h5 := hx.length
      omega
    repeat' wtm_at "mine w5"
    refine o_addL S (S.mem (by wtm_at "mine m_lm")) (S.mem .head) (fun sq h10 S => ?_) (by rw [sizeLine_eq]; simp; omega)
    repeat' wtm_at "mine w5"
    exact backS X4 S q ⟨_, _, rfl, rfl, .cons _ _ j10⟩ (by wtm_at "mine m_sl")

theorem s_five {w : World} {A : Around} {h : Heap} {c k x y : Addr} {F : Int → Int → Int} {a b : Int} {n u : Nat} (ao : AOk A n u) (hn : n ≤ 340) (hu : u ≤ 310) (K : KIn w.params h) (T : Tabs h) (hk : KAll h c k) (hc : CmpC w c h F) (hx : IsInst h k x a) (hy : IsInst h k y b) :
    Does w A (call (.ref 84) [.ref x, .ref y] []) h fun r new _ => ∃ ha, r = .ref ha ∧ new = [(ha, dList [.bool (decide (F a b < 0)), .bool (decide (F a b ≤ 0)), .bool (decide (F a b = 0)), .bool (decide (F a b ≥ 0)), .bool (decide (F a b > 0))])] := by
  intro Q E g d t os q
  obtain ⟨pm, hf⟩ := fa84 K
  have hrl : (400 : Nat) < recursionLimit := by decide
  have hn0 : Nat.blt n recursionLimit = true := Nat.ble_eq_true_of_le (by omega)
  refine enter ao hn0 hf K T (ca84 K) (binds := [("one", .ref x), ("two", .ref y)]) (l := [("two", .ref y), ("one", .ref x)]) (BindsTo.of_eq rfl) fun L h₁ t₁ A' E' a' S => ?_
  refine wpAny_execs_cons ?_
  repeat' wtm_at "mine w5"
  refine s_op1 a' (by omega) (by omega) S.kinh S.tb (hk.ext S.keep) (hc.ext S.keep) (hx.ext S.keep) (hy.ext S.keep) _ _ _ _ _ _ fun v new h2 t2 X2 T2 N2 D2 P2 => ?_
  obtain ⟨rfl, rfl⟩ := P2
  replace S := S.call0 X2 T2
  repeat' wtm_at "mine w5"
  refine s_op4 a' (by omega) (by omega) S.kinh S.tb (hk.ext S.keep) (hc.ext S.keep) (hx.ext S.keep) (hy.ext S.keep) _ _ _ _ _ _ fun v new h2 t2 X2 T2 N2 D2 P2 => ?_
  obtain ⟨rfl, rfl⟩ := P2
  replace S := S.call0 X2 T2
  repeat' wtm_at "mine w5"
  refine s_op3 a' (by omega) (by omega) S.kinh S.tb (hk.ext S.keep) (hc.ext S.keep) (hx.ext S.keep) (hy.ext S.keep) _ _ _ _ _ _ fun v new h2 t2 X2 T2 N2 D2 P2 => ?_
  obtain ⟨rfl, rfl⟩ := P2
  replace S := S.call0 X2 T2
  repeat' wtm_at "mine w5"
  refine s_op5 a' (by omega) (by omega) S.kinh S.tb (hk.ext S.keep) (hc.ext S.keep) (hx.ext S.keep) (hy.ext S.keep) _ _ _ _ _ _ fun v new h2 t2 X2 T2 N2 D2 P2 => ?_
  obtain ⟨rfl, rfl⟩ := P2
  replace S := S.call0 X2 T2
  repeat' wtm_at "mine w5"
  refine s_op2 a' (by omega) (by omega) S.kinh S.tb (hk.ext S.keep) (hc.ext S.keep) (hx.ext S.keep) (hy.ext S.keep) _ _ _ _ _ _ fun v new h2 t2 X2 T2 N2 D2 P2 => ?_
  obtain ⟨rfl, rfl⟩ := P2
  replace S := S.call0 X2 T2
  repeat' wtm_at "mine w5"
  exact backS (ExtT.refl _ _) S q ⟨_, rfl, rfl⟩ (by wtm_at "mine m_sl")

theorem isL_ext {h h' : Heap} {a : Addr} {xs : Array Value} (x : h.IsList a xs) (k : Ext h h') (n : a ∉ Tb) : h'.IsList a xs := let ⟨o, e, r⟩ := x; ⟨o, k _ _ e n, r⟩
/-- a visit made, in a ledger -/
def VD.led (D : VD) (k : K3) : Led := [(D.dx, dNz 4 (lk [("span", .ref D.sp), ("first", .int k.1 D.t1), ("behind", .int k.2.1 D.t2), ("guest", .int k.2.2 D.t3)])),
  (D.sp, dObj (kla_obj "<lambda>" visQ lamS.1.1 lamS.1.2.1 lamS.1.2.2 [("first", D.c1), ("behind", D.c2)] D.pm D.c' D.ctv)), (D.f, dObj { cls := .type "function", dict := some D.dx, data := .func D.fd }), (D.c2, dCell (some (.int k.2.1 D.t2))), (D.c1, dCell (some (.int k.1 D.t1)))]
def vLed (ps : List (VD × K3)) : Led := ps.reverse.flatMap fun p => p.1.led p.2
def vVals (ps : List (VD × K3)) : List Value := ps.map fun p => .ref p.1.f
theorem sl_left {α : Type} {ys zs : List α} : ∀ (xs : List α), ys.Sublist zs → (xs ++ ys).Sublist (xs ++ zs)
  | [], h => h
  | _ :: r, h => .cons_cons _ (sl_left r h)
theorem vd_of {w : World} {B h : Heap} {own : Led} {f dx sp c1 c2 c' : Addr} {fd : FuncData} {pm ctv : Value} {x y z : Int} {t1 t2 t3 : Tok} (S : St w B h ((dx, dNz 4 (lk [("span", .ref sp), ("first", .int x t1), ("behind", .int y t2), ("guest", .int z t3)])) ::
    (sp, dObj (kla_obj "<lambda>" visQ lamS.1.1 lamS.1.2.1 lamS.1.2.2 [("first", c1), ("behind", c2)] pm c' ctv)) :: (f, dObj { cls := .type "function", dict := some dx, data := .func fd }) :: (c2, dCell (some (.int y t2))) :: (c1, dCell (some (.int x t1))) :: own)) :
    ∃ D : VD, D.f = f ∧ D.c' = c' ∧ St w B h (D.led (x, y, z) ++ own) := ⟨⟨f, dx, sp, c1, c2, c', fd, pm, ctv, t1, t2, t3⟩, rfl, rfl, S⟩
/-- visits end to end, the next from the hour on -/
structure VUp (ks : List K3) (hour : Int) : Prop where
  g : VGood ks
  z : ks.length = 0 → hour = 0
  l : ∀ (i : Nat) (k : K3), ks[i]? = some k → i + 1 = ks.length → hour = k.2.1
theorem VUp.nil : VUp [] 0 := ⟨⟨fun _ h => (nomatch h), fun _ _ h => (nomatch h), fun _ _ _ h => (nomatch h)⟩, fun _ => rfl, fun _ _ h => (nomatch h)⟩
theorem VUp.snoc {ks : List K3} {hour : Int} (x : VUp ks hour) {k : K3} (e : k.1 = hour) (lt : k.1 < k.2.1) : VUp (ks ++ [k]) k.2.1 := by
  have one : ∀ (i : Nat) (k' : K3), (ks ++ [k])[i]? = some k' → (i < ks.length ∧ ks[i]? = some k') ∨ (i = ks.length ∧ k' = k) := fun i k' h => by
    rw [List.getElem?_append] at h
    split at h
    · exact .inl ⟨by assumption, h⟩
    · rename_i hi
      have h2 := (List.getElem?_eq_some_iff.mp h).1
      have : i - ks.length = 0 := by simp at h2; omega
      rw [this] at h
      exact .inr ⟨by omega, (Option.some.inj h).symm⟩
  refine ⟨⟨fun k' h => ?_, fun i k' h => ?_, fun i k1 k2 h h2 => ?_⟩, fun h => by simp at h, fun i k' h hl => ?_⟩
  · rcases one 0 k' h with ⟨_, h⟩ | ⟨h1, rfl⟩
    · exact x.g.z k' h
    · rw [e]; exact x.z h1.symm
  · rcases one i k' h with ⟨_, h⟩ | ⟨_, rfl⟩
    · exact x.g.lt i k' h
    · exact lt
  · rcases one i k1 h with ⟨h0, q1⟩ | ⟨h0, rfl⟩
    · rcases one (i + 1) k2 h2 with ⟨_, q2⟩ | ⟨h3, rfl⟩
      · exact x.g.nx i k1 k2 q1 q2
      · rw [e]; exact x.l i k1 q1 h3
    · rcases one (i + 1) k2 h2 with ⟨h3, _⟩ | ⟨h3, _⟩ <;> omega
  · rcases one i k' h with ⟨h0, _⟩ | ⟨_, rfl⟩
    · rw [List.length_append] at hl; simp at hl; omega
    · rfl
theorem s_visits {w : World} {A : Around} {h : Heap} {sa : Addr} {vs : List Value} {ns : List Int} {n u : Nat} (a : AOk A n u) (hn : Nat.blt (n + 1) recursionLimit = true) (K : KIn w.params h) (T : Tabs h) (hl : h.IsList sa vs.toArray) (hT : sa ∉ Tb) (hi : IntsAre vs ns) (hz : vs.length ≤ 1000) :
    Does w A (call (.ref 51) [.ref sa] []) h fun r new h' => ∃ (la : Addr) (ps : List (VD × K3)), r = .ref la ∧ new = (la, dList (vVals ps)) :: vLed ps ∧ ps.length = 5 ∧ VGood (ps.map (·.2)) ∧ (∀ p ∈ ps, 0 ≤ p.2.2.2 ∧ p.2.2.2 < 3) ∧ ∀ p ∈ ps, h'.CodeRec (.ref p.1.c') visQ ∧ p.1.c' ∉ Tb := by
  intro Q E g d t os q
  obtain ⟨pm, hf⟩ := fa51 K
  have hn0 : Nat.blt n recursionLimit = true := Nat.ble_eq_true_of_le (by have := Nat.le_of_ble_eq_true hn; omega)
  refine enter a hn0 hf K T (ca51 K) (binds := [("script", .ref sa)]) (l := [("script", .ref sa)]) (BindsTo.of_eq rfl) fun L h₁ t₁ A' E' a' S => ?_
  refine wpAny_execs_cons ?_
  repeat' wtm_at "mine w3"
  rename_i fx hx1 hx2 tx1 hx3 hx4 tx2 tx3
  obtain ⟨va, rfl⟩ : ∃ x, x = a := ⟨a, rfl⟩
  refine for_range (B := h) (k := 5) (fun i B' l' rest' => ∃ (ps : List (VD × K3)) (hour : Int) (th : Tok), lk l' "script" = some (.ref sa) ∧ lk l' "fixed" = some (.ref fx) ∧ lk l' "visits" = some (.ref va) ∧ lk l' "hour" = some (.int hour th) ∧
    (∃ ys, rest' = (va, dList (vVals ps)) :: (fx, dList ys) :: vLed ps ∧ ∀ j, j < 5 → ∃ y t, ys[j]? = some (.int y t)) ∧ ps.length = i ∧ VUp (ps.map (·.2)) hour ∧ (∀ p ∈ ps, 0 ≤ p.2.2.2 ∧ p.2.2.2 < 3) ∧ ∀ p ∈ ps, B'.CodeRec (.ref p.1.c') visQ ∧ p.1.c' ∉ Tb) a' ?_ ?_ ?_ (by decide)
  · repeat' wtm_at "mine w3"
    wtm_at "mine w_bi"
    refine ⟨_, _, _, _, _, rfl, rfl, S.mem .head, S.tl.perm (List.perm_middle (l₁ := [_, _]) (l₂ := [])), [], 0, _, by wtm_at "mine w_lk", by wtm_at "mine w_lk", by wtm_at "mine w_lk", by wtm_at "mine w_lk", ⟨_, rfl, fun j hj => ?_⟩, rfl, VUp.nil, fun p hp => (nomatch hp), fun p hp => (nomatch hp)⟩
    have : j = 0 ∨ j = 1 ∨ j = 2 ∨ j = 3 ∨ j = 4 := by omega
    rcases this with rfl | rfl | rfl | rfl | rfl <;> exact ⟨_, _, rfl⟩
  · rintro i tk B' l' rest' it h' t' E'' Post hi7 ⟨ps, hour, th, j1, j2, j3, j0, ⟨ys, rfl, j4⟩, j5, j6, j7, j8⟩ X S pn _ _
    have hl' := isL_ext hl X hT
    have hsz : vs.length ≤ sizeLine := by rw [sizeLine_eq]; omega
    have hps : (vVals ps).length ≤ sizeLine := by unfold vVals; rw [sizeLine_eq, List.length_map]; omega
    obtain ⟨y, ty, hy⟩ := j4 i hi7
    repeat' wtm_at "mine w3"
    refine ⟨_, _, _, _, rfl, S, fun _ _ z => (by cases z), fun sl h2 S => ?_⟩
    refine ⟨(isL_ext hl' S.keep hT).typeIs, ?_⟩
    refine o_slice (lo := some (i : Int)) (hi := none) (st := some 5) S (isL_ext hl' S.keep hT) (S.mem .head) (.int _ _) .none (.int _ _) (by decide) hsz fun wl h3 S => ?_
    repeat' wtm_at "mine w3"
    refine o_sum a'.hd S (S.mem .head).list (hi.pick (some (i : Int)) none (some 5)) fun h4 t4 x4 S => ?_
    generalize (pickNums ns (some (i : Int)) none (some 5)).sum = z at *
    repeat' wtm_at "mine w3"
    refine item_lst (S.mem (by wtm_at "mine m_lm")) (by omega) (by omega) (x := .int y ty) (by simpa using hy) ?_
    repeat' wtm_at "mine w4"
    refine call_abs_int fun u8 t8 => ?_
    repeat' wtm_at "mine w4"
    refine ⟨let ⟨_, hf⟩ := fa44 S.kinh; ⟨_, hf⟩, s_visit a' hn S.kinh S.tb _ _ _ _ _ _ fun v new h2 t2 X2 T2 N2 D2 P2 => ?_⟩
    obtain ⟨f, dx, sp, c1, c2, c', fd, ctv, rfl, hcr, hcT, rfl⟩ := P2
    have S2 := S.call X2 T2 N2 D2
    clear S
    obtain ⟨B1, X1, r1, S⟩ := S2.learn hcr hcT
    simp only [List.cons_append, List.nil_append] at S
    repeat' wtm_at "mine w4"
    refine o_append S (by wtm_at "mine m_lu") hps fun h5 S => ?_
    repeat' wtm_at "mine w4"
    refine item_lneg (S.mem (by wtm_at "mine m_lm")) (by decide) (by decide) (by rw [List.length_append]; simp; omega) (x := .ref f) ?_ ?_
    · have e0 : (-1 + ((vVals ps ++ [Value.ref f]).length : Int)).toNat = (vVals ps).length := by rw [List.length_append, List.length_singleton]; omega
      rw [e0, List.getElem?_append_right (Nat.le_refl _), Nat.sub_self]
      rfl
    repeat' wtm_at "mine w4"
    obtain ⟨D, eD, ec, S0⟩ := vd_of S
    generalize hk0 : ((hour, hour + 1 + (if (z + y).fdiv 3 < 0 then -(z + y).fdiv 3 else (z + y).fdiv 3), (z + y).fmod 3) : K3) = k0 at S0
    have e1 : k0.1 = hour := by rw [← hk0]
    have e2 : k0.1 < k0.2.1 := by
      rw [← hk0]
      show hour < hour + 1 + (if (z + y).fdiv 3 < 0 then -(z + y).fdiv 3 else (z + y).fdiv 3)
      split <;> omega
    have e3 : 0 ≤ k0.2.2 ∧ k0.2.2 < 3 := by
      rw [← hk0]
      exact ⟨Int.fmod_nonneg_of_pos _ (by decide), Int.fmod_lt_of_pos _ (by decide)⟩
    have S1 : St w B1 _ (D.led k0 ++ ([(it, _), (L, _), (va, _), (fx, _)] ++ vLed ps)) := S0.sublist (sl_left _ (.cons _ (.cons _ (List.Sublist.refl _))))
    have S2 := S1.perm (List.perm_append_comm_assoc _ _ _)
    have eL : vLed (ps ++ [(D, k0)]) = D.led k0 ++ vLed ps := by unfold vLed; rw [List.reverse_append]; rfl
    have eV : vVals (ps ++ [(D, k0)]) = vVals ps ++ [.ref f] := by unfold vVals; rw [List.map_append, ← eD]; rfl
    refine pn _ _ _ B1 _ _ (.inl rfl) X1 S2 ⟨ps ++ [(D, k0)], k0.2.1, _, by wtm_at "mine w_lk", by wtm_at "mine w_lk", by wtm_at "mine w_lk", by rw [← hk0]; wtm_at "mine w_lk", ⟨ys, by rw [eL, eV]; rfl, j4⟩, by rw [List.length_append, j5]; rfl, by rw [List.map_append]; exact j6.snoc e1 e2, fun p hp => ?_, fun p hp => ?_⟩
    · rcases List.mem_append.mp hp with hp | hp
      · exact j7 p hp
      · rw [List.mem_singleton.mp hp]; exact e3
    · rcases List.mem_append.mp hp with hp | hp
      · exact ⟨codeRec_ext (j8 p hp).1 X1 (j8 p hp).2, (j8 p hp).2⟩
      · rw [List.mem_singleton.mp hp]
        show B1.CodeRec (.ref D.c') visQ ∧ D.c' ∉ Tb
        rw [ec]; exact ⟨r1, hcT⟩
  · rintro B' l' rest' h' t' ⟨ps, hour, th, j1, j2, j3, j0, ⟨ys, rfl, j4⟩, j5, j6, j7, j8⟩ X S
    repeat' wtm_at "mine w3"
    refine backS X S q ⟨va, ps, rfl, rfl, j5, j6.g, j7, fun p hp => ⟨codeRec_ext (j8 p hp).1 S.keep (j8 p hp).2, (j8 p hp).2⟩⟩ ?_
    refine .cons _ (.cons_cons _ (.cons _ (List.Sublist.refl _)))

/-- the guests of the visits that are over by the hour -/
def overOf (ks : List K3) (hour : Int) : List Int := (ks.filter fun k => decide (k.2.1 ≤ hour)).map (·.2.2)
theorem mod2 (x : Int) : 0 ≤ x.fmod 2 := Int.fmod_nonneg_of_pos _ (by decide)
theorem who_last (ks : List K3) (hour a b : Int) : (lastOf ks hour a b).map (·.2.2) = who (overOf ks hour) a b := by
  unfold lastOf who overOf
  rw [List.filter_map, List.filter_filter, List.getLast?_map]
  congr 2
  refine List.filter_congr fun k _ => ?_
  unfold gin
  simp only [Function.comp]
  rw [Bool.beq_comm (a := a), Bool.beq_comm (a := b)]
theorem cmpF_lt (ks : List K3) (hour a b : Int) : decide (cmpF ks hour a b < 0) = isLs (overOf ks hour) a b := by
  unfold isLs
  rw [← who_last]
  have h2 := mod2 hour
  cases hl : lastOf ks hour a b with
  | none =>
    have e : cmpF ks hour a b = 0 := by unfold cmpF; rw [hl]
    rw [decide_eq_false (by omega)]; rfl
  | some k =>
    by_cases e : k.2.2 = a
    · have e1 : cmpF ks hour a b = -1 - hour.fmod 2 := by unfold cmpF; rw [hl]; exact if_pos e
      rw [decide_eq_true (by omega)]
      show true = (some k.2.2 == some a)
      rw [e]; simp
    · have e1 : cmpF ks hour a b = 1 + hour.fmod 2 := by unfold cmpF; rw [hl]; exact if_neg e
      rw [decide_eq_false (by omega)]
      show false = (some k.2.2 == some a)
      simpa using e
theorem cmpF_gt (ks : List K3) (hour a b : Int) : decide (cmpF ks hour a b > 0) = isGt (overOf ks hour) a b := by
  unfold isGt
  rw [← who_last]
  have h2 := mod2 hour
  cases hl : lastOf ks hour a b with
  | none =>
    have e : cmpF ks hour a b = 0 := by unfold cmpF; rw [hl]
    rw [decide_eq_false (by omega)]; rfl
  | some k =>
    by_cases e : k.2.2 = a
    · have e1 : cmpF ks hour a b = -1 - hour.fmod 2 := by unfold cmpF; rw [hl]; exact if_pos e
      rw [decide_eq_false (by omega)]
      show false = !(k.2.2 == a)
      rw [e]; simp
    · have e1 : cmpF ks hour a b = 1 + hour.fmod 2 := by unfold cmpF; rw [hl]; exact if_neg e
      rw [decide_eq_true (by omega)]
      show true = !(k.2.2 == a)
      simpa using e
theorem VGood.pos {ks : List K3} (g : VGood ks) {i : Nat} {k : K3} (hk : ks[i]? = some k) : 0 < k.2.1 := by
  have h1 := g.lt i k hk
  have hl := (List.getElem?_eq_some_iff.mp hk).1
  have e0 : ks[0]? = some ks[0] := List.getElem?_eq_getElem (by omega)
  have hz := g.z _ e0
  have hz1 := g.lt _ _ e0
  rcases Nat.eq_zero_or_pos i with rfl | hi
  · rw [show k = ks[0] from Option.some.inj (hk.symm.trans e0)]; omega
  · have := g.after hi e0 hk; omega
theorem last_zero {ks : List K3} (g : VGood ks) (a b : Int) : lastOf ks 0 a b = none := by
  unfold lastOf
  have : (ks.filter fun k => gin a b k && decide (k.2.1 ≤ 0)) = [] := by
    rw [List.filter_eq_nil_iff]
    intro k hk
    obtain ⟨i, hi, rfl⟩ := List.getElem_of_mem hk
    have := g.pos (List.getElem?_eq_getElem hi)
    simp; intro _; omega
  rw [this]; rfl
theorem last_end {ks : List K3} {k : K3} {n : Nat} (hn : ks.length = n + 1) (hk : ks[n]? = some k) {a b : Int} (hg : gin a b k = true) : lastOf ks k.2.1 a b = some k := by
  have e : ks = ks.take n ++ [k] := by
    have h1 : ks.drop n = [k] := by
      have hl : n < ks.length := by omega
      rw [List.drop_eq_getElem_cons hl]
      have : ks[n] = k := (List.getElem?_eq_some_iff.mp hk).2
      rw [this, List.drop_of_length_le (by omega)]
    conv => lhs; rw [← List.take_append_drop n ks, h1]
  unfold lastOf
  rw [e, List.filter_append, List.filter_cons_of_pos (by rw [hg]; simp), List.filter_nil, List.getLast?_concat]
theorem five_zero {ks : List K3} (g : VGood ks) (a b : Int) : cmpF ks 0 a b = 0 := by unfold cmpF; rw [last_zero g]
theorem five_lt {ks : List K3} {k : K3} {n : Nat} (hn : ks.length = n + 1) (hk : ks[n]? = some k) (b : Int) : cmpF ks k.2.1 k.2.2 b < 0 := by
  unfold cmpF
  rw [last_end hn hk (by unfold gin; simp)]
  have := mod2 k.2.1
  simp; omega
theorem five_gt {ks : List K3} {k : K3} {n : Nat} (hn : ks.length = n + 1) (hk : ks[n]? = some k) {b : Int} (hb : k.2.2 ≠ b) : cmpF ks k.2.1 b k.2.2 > 0 := by
  unfold cmpF
  rw [last_end hn hk (by unfold gin; simp)]
  have := mod2 k.2.1
  show (if k.2.2 = b then _ else _) > 0
  rw [if_neg hb]; omega
theorem nobody {ks : List K3} {xs : List Value} {col : Int} {r : Value} (hg : ∀ k ∈ ks, 0 ≤ k.2.2 ∧ k.2.2 < 3) (f : Found ks xs col 3 3 r) : r = .none := by
  rcases f with ⟨h, _⟩ | ⟨j, k, hk, _, hi, _⟩
  · exact h
  · have := hg k (List.mem_of_getElem? hk)
    unfold gin at hi
    simp at hi
    omega
theorem other_ne {g : Int} (h : 0 ≤ g ∧ g < 3) : g ≠ (g + 1).fmod 3 := by
  have : g = 0 ∨ g = 1 ∨ g = 2 := by omega
  rcases this with rfl | rfl | rfl <;> decide
theorem over_row {ks : List K3} {hour : Int} (h5 : ks.length ≤ 5) (hg : ∀ k ∈ ks, 0 ≤ k.2.2 ∧ k.2.2 < 3) : overOf ks hour ∈ rows 5 := by
  refine mem_rows 5 _ ?_ fun x hx => ?_
  · unfold overOf
    rw [List.length_map]
    exact Nat.le_trans (List.length_filter_le _ _) h5
  · obtain ⟨k, hk, rfl⟩ := List.mem_map.mp hx
    have := hg k (List.mem_filter.mp hk).1
    omega
/-- what the finite check tells -/
theorem chk3_of {ov : List Int} (h : ov ∈ rows 5) : chk3 ov = true := by
  rcases List.mem_cons.mp h with rfl | h
  · exact chk_n
  · obtain ⟨l, hl, h⟩ := List.mem_flatMap.mp h
    have h' : ov = 0 :: l ∨ ov = 1 :: l ∨ ov = 2 :: l := by simpa using h
    rcases h' with rfl | rfl | rfl
    · exact List.all_eq_true.mp chk_0 l hl
    · exact List.all_eq_true.mp chk_1 l hl
    · exact List.all_eq_true.mp chk_2 l hl
theorem chk_of {ov : List Int} (h : ov ∈ rows 5) {r : Nat} (hr : r < 3) : chk ov r = true := by
  have h3 := chk3_of h
  simp only [chk3, Bool.and_eq_true] at h3
  have : r = 0 ∨ r = 1 ∨ r = 2 := by omega
  rcases this with rfl | rfl | rfl
  · exact h3.1.1
  · exact h3.1.2
  · exact h3.2
theorem chk_parts {ov : List Int} {r : Nat} (h : chk ov r = true) : (∃ p, Runs (fun i j => isLs ov ((standOf r).getD i 0) ((standOf r).getD j 0)) 3 (kas_sort 3) p ∧ p.size = 3 ∧ (∀ i ∈ p.toList, i < 3) ∧ (p.toList.map fun i => (standOf r).getD i 0) = dueOf ov (standOf r)) ∧
    (dueOf ov (standOf r)).length = 3 ∧ ov.foldl toFront (standOf r) = dueOf ov (standOf r) ∧ ov.foldl toFront [] = leftOf ov ∧ isGt ov ((dueOf ov (standOf r)).getD 2 0) ((dueOf ov (standOf r)).getD 0 0) = !ov.isEmpty := by
  unfold chk at h
  simp only [Bool.and_eq_true, beq_iff_eq] at h
  obtain ⟨⟨⟨⟨h1, h2⟩, h3⟩, h4⟩, h5⟩ := h
  refine ⟨?_, h2, h3, h4, h5⟩
  revert h1
  cases hk : kasRun (fun i j => isLs ov ((standOf r).getD i 0) ((standOf r).getD j 0)) 3 (kas_sort 3) with
  | none => intro h; cases h
  | some p =>
    intro h
    simp only [Bool.and_eq_true, beq_iff_eq] at h
    exact ⟨p, runs_of hk, h.1.1, fun i hi => Nat.le_of_ble_eq_true (List.all_eq_true.mp h.1.2 i hi), h.2⟩

section
variable {w : World} {A : Around} {E : Value → Shared → Prop} {B h : Heap} {g : Array GenState} {d : Drawn} {t : Nat} {os : OsState} {own own' : Led} {la : Addr} {xs : List Value} {n u : Nat}
theorem learn_all : ∀ {ps : List (VD × K3)} {B : Heap}, St w B h own → (∀ p ∈ ps, h.CodeRec (.ref p.1.c') visQ ∧ p.1.c' ∉ Tb) → ∃ B', Ext B B' ∧ (∀ p ∈ ps, B'.CodeRec (.ref p.1.c') visQ) ∧ St w B' h own
  | [], B, S, _ => ⟨B, ExtT.refl _ _, fun _ hp => (nomatch hp), S⟩
  | p :: ps, B, S, hc => by
    obtain ⟨B1, X1, r1, S1⟩ := S.learn (hc p (.head _)).1 (hc p (.head _)).2
    obtain ⟨B2, X2, r2, S2⟩ := learn_all S1 fun p hp => hc p (.tail _ hp)
    refine ⟨B2, X1.trans X2, fun p' hp => ?_, S2⟩
    rcases List.mem_cons.mp hp with rfl | hp
    · exact codeRec_ext r1 X2 (hc p' (.head _)).2
    · exact r2 p' hp
theorem are_visits {B : Heap} : ∀ {ps : List (VD × K3)}, (∀ p ∈ ps, VAt B p.1 p.2) → Are (IsV B) (vVals ps) (ps.map (·.2))
  | [], _ => .nil
  | p :: ps, hp => .cons ⟨p.1, rfl, hp p (.head _)⟩ (are_visits fun q hq => hp q (.tail _ hq))
theorem visits_stand {ps : List (VD × K3)} (S : St w B h (((la, dList (vVals ps)) :: vLed ps) ++ own)) (hc : ∀ p ∈ ps, h.CodeRec (.ref p.1.c') visQ ∧ p.1.c' ∉ Tb) :
    ∃ B', Ext B B' ∧ At B' la (dList (vVals ps)) ∧ la ∉ Tb ∧ Are (IsV B') (vVals ps) (ps.map (·.2)) ∧ St w B' h own := by
  obtain ⟨B1, X1, r1, S1⟩ := learn_all S hc
  obtain ⟨B2, X2, F2, S2⟩ := S1.frz (new := (la, dList (vVals ps)) :: vLed ps) (List.Perm.refl _)
  refine ⟨B2, X1.trans X2, (F2 _ (.head _)).1, (F2 _ (.head _)).2, are_visits fun p hp => ?_, S2⟩
  have sub := fun i (q : Addr × (Obj → Prop)) (hq : (p.1.led p.2)[i]? = some q) => F2 q (.tail _ (List.mem_flatMap.mpr ⟨p, List.mem_reverse.mpr hp, List.mem_of_getElem? hq⟩))
  exact ⟨(sub 2 _ rfl).2, (sub 0 _ rfl).2, (sub 1 _ rfl).2, (sub 4 _ rfl).2, (sub 3 _ rfl).2, (hc p hp).2, (sub 2 _ rfl).1, (sub 0 _ rfl).1, fnAt (sub 1 _ rfl).1, (sub 4 _ rfl).1, (sub 3 _ rfl).1, codeRec_ext (r1 p hp) X2 (hc p hp).2⟩
/-- what comes back of _law_lately is a comparison -/
theorem lately_of {new : Led} {r : Value} {hour : Int} {th : Tok} {ks : List K3} (S : St w B h (new ++ own))
    (P : ∃ f c1 c2 c' doc ctv, r = .ref f ∧ h.CodeRec (.ref c') cmQ ∧ c' ∉ Tb ∧ new = [(f, dObj (fnMade "compare" cmQ cmS.1.1 cmS.1.2.1 cmS.1.2.2 [("visits", c1), ("hour", c2)] doc (pmOf w) c' ctv)), (c2, dCell (some (.int hour th))), (c1, dCell (some (.ref la)))])
    (hl : At B la (dList xs)) (hT : la ∉ Tb) (hx : Are (IsV B) xs ks) (hg : VGood ks) : ∃ f B', r = .ref f ∧ Ext B B' ∧ CmpC w f B' (cmpF ks hour) ∧ St w B' h own := by
  obtain ⟨f, c1, c2, c', doc, ctv, rfl, hcr, hcT, rfl⟩ := P
  obtain ⟨B1, X1, r1, S1⟩ := S.learn hcr hcT
  obtain ⟨B2, X2, F2, S2⟩ := S1.frz (new := [_, _, _]) (List.Perm.refl _)
  have X := X1.trans X2
  have f0 := F2 _ (.head _)
  have f1 := F2 _ (.tail _ (.head _))
  have f2 := F2 _ (.tail _ (.tail _ (.head _)))
  exact ⟨f, B2, rfl, X, cmp_c S2.kin f0.2 hcT (fnAt f0.1) (codeRec_ext r1 X2 hcT) f2.1 f1.1 f2.2 f1.2 (hl.ext X hT) hT (hx.mono fun _ _ z => z.ext X) hg, S2⟩
/-- what comes back of _law_program is a program -/
theorem prog_of {new : Led} {r : Value} {x y : Int} {tx ty : Tok} (S : St w B h (new ++ own))
    (P : ∃ p dx se T c' fd doc ctv tk c1 c2, r = .ref p ∧ h.CodeRec (.ref c') seQ ∧ c' ∉ Tb ∧
      new = [(dx, dNz 1 (lk [("search", .ref se)])), (p, dObj { cls := .type "function", dict := some dx, data := .func fd }), (se, dObj (kdv_obj "search" seQ seS.1.1 (.stmts seS.1.2.1) seS.1.2.2 [("two", c2), ("one", c1)] (.ref T) doc (pmOf w) c' ctv)), (T, dTup [.int 0 tk]), (c2, dCell (some (.int y ty))), (c1, dCell (some (.int x tx)))]) :
    ∃ p B', r = .ref p ∧ Ext B B' ∧ IsProg B' p x y ∧ St w B' h own := by
  obtain ⟨p, dx, se, T0, k', fd, doc2, ctv2, tk, cc1, cc2, rfl, hcr, hcT, rfl⟩ := P
  obtain ⟨B1, X1, r1, S3⟩ := S.learn hcr hcT
  obtain ⟨B2, Y2, F2, S⟩ := S3.frz (new := [_, _, _, _, _, _]) (List.Perm.refl _)
  have ff := fun i (p : Addr × (Obj → Prop)) (h : _) => F2 p (List.mem_of_getElem? (i := i) h)
  have f0 := ff 0 _ rfl
  have f1 := ff 1 _ rfl
  have f2 := ff 2 _ rfl
  have f3 := ff 3 _ rfl
  have f4 := ff 4 _ rfl
  have f5 := ff 5 _ rfl
  exact ⟨p, B2, rfl, X1.trans Y2, ⟨dx, fd, se, f1.2, f0.2, f1.1, f0.1,
    T0, k', doc2, ctv2, pmOf w, tk, cc1, cc2, tx, ty, f2.2, f3.2, hcT, f5.2, f4.2, fnAt f2.1, f3.1, codeRec_ext r1 Y2 hcT, f5.1, f4.1⟩, S⟩
theorem looks_cls {c k : Addr} (hk : KAll h c k) : Looks (model Pr w) h (keeperOf (.ref k)) .machine := by
  obtain ⟨D, H⟩ := hk
  unfold keeperOf
  refine (Looks.ld (part := none) H.ek).andThen ?_
  show Looks _ _ (do return if (← specialOf (.ref k) "__call__") == some (.builtin "type.__call__") then Keeper.machine else .caller) _
  have e : Looks (model Pr w) h (specialOf (.ref k) "__call__") (some (.builtin "type.__call__")) := by
    unfold specialOf
    exact (((Looks.ld H.ek).andThen .now : Looks (model Pr w) h (typeOf (.ref k)) (.type "type"))).andThen (Looks.of_pure tc_lookup)
  refine e.andThen ?_
  rw [if_pos (by simp)]
  exact .now
theorem cwc_cons {c k : Addr} {e : Expr} {es : List Expr} {env : Env} {pos : Pos} {first : List Value} {Q : Value → Shared → Prop} (_S : St w B h own) (_hk : KAll B c k) (q : wpM w A (spliced (backTo pos (starEach (e :: es) env))) (fun vs s₁ => KAll s₁.heap c k ∧ wpM w A (call (.ref k) (first ++ vs) []) Q E s₁) E ⟨h, g, d, t, os⟩)
    (he : starEach (e :: es) env = (false, eval e env) :: starEach es env) (hp : (backTo pos (starEach es env)).any (·.1) = false) : wpM w A (callWith pos (.ref k) first (backTo pos (starEach (e :: es) env)) (backToKw pos (keywordEach [] env))) Q E ⟨h, g, d, t, os⟩ := by
  rw [he] at q ⊢
  exact callWith_of (P := fun h => KAll h c k) (by show ((false || (backTo pos (starEach es env)).any (·.1)) || false) = false; rw [hp]; rfl) (fun h x => ⟨.machine, .inr (.inl rfl), looks_cls x⟩) (evalArgs_plain q)
end
set_option hygiene false in
local macro_rules | `(tactic| wtm_at "mine w6") => `(tactic| first
  | ((with_reducible refine' cwc_cons S ?zzk ?_ ?zzhe ?zzhp); (case zzk => assumption); (case zzhe => exact rfl); (case zzhp => exact rfl))
  | wtm_at "mine w5")

def bools (bs : List Bool) : List Value := bs.map .bool
theorem inst_of {w : World} {B h : Heap} {own : Led} {k : Addr} {vi : Int} {vt : Tok} {new : Led} {r : Value} (S : St w B h (new ++ own)) (P : ∃ x dx, r = .ref x ∧ new = [(x, dObj (kInst k dx vi vt)), (dx, dObj kEmp)]) : ∃ x B', r = .ref x ∧ Ext B B' ∧ IsInst B' k x vi ∧ St w B' h own := by
  obtain ⟨x, dx, rfl, rfl⟩ := P
  obtain ⟨B2, Y2, F2, S⟩ := S.frz (new := [_, _]) (List.Perm.refl _)
  obtain ⟨⟨o1, e1, r1⟩, n1⟩ := F2 _ (.head _)
  obtain ⟨⟨o2, e2, r2⟩, n2⟩ := F2 _ (.tail _ (.head _))
  cases r1; cases r2
  exact ⟨x, B2, rfl, Y2, ⟨dx, vt, n1, n2, e1, e2⟩, S⟩
theorem s_fives {w : World} {A : Around} {h : Heap} {la : Addr} {xs : List Value} {ks : List K3} {n u : Nat} (a : AOk A n u) (hn : n ≤ 330) (hu : u ≤ 200) (K : KIn w.params h) (T : Tabs h)
    (hl : At h la (dList xs)) (hT : la ∉ Tb) (hx : Are (IsV h) xs ks) (hg : VGood ks) (h5 : ks.length = 5) (hgu : ∀ k ∈ ks, 0 ≤ k.2.2 ∧ k.2.2 < 3) :
    Does w A (call (.ref 91) [.ref la] []) h fun r new _ => ∃ ra l1 l2 l3, r = .ref ra ∧ new = [(ra, dList [.ref l1, .ref l2, .ref l3]), (l3, dList (bools [false, false, false, true, true])), (l2, dList (bools [true, true, false, false, false])), (l1, dList (bools [false, true, true, true, false]))] := by
  intro Q E g d t os q
  obtain ⟨pm, hf⟩ := fa91 K
  have hrl : (400 : Nat) < recursionLimit := by decide
  have hn0 : ∀ k, k ≤ 50 → Nat.blt (n + k) recursionLimit = true := fun k hk => Nat.ble_eq_true_of_le (by omega)
  obtain ⟨k4, hk4⟩ : ∃ k4, ks[4]? = some k4 := ⟨_, List.getElem?_eq_getElem (by omega)⟩
  obtain ⟨v4, hv4⟩ : ∃ v4, xs[4]? = some v4 := ⟨_, List.getElem?_eq_getElem (by rw [hx.length]; omega)⟩
  obtain ⟨k4', hk4', V0⟩ := hx.get hv4
  rw [hk4] at hk4'; cases hk4'
  obtain ⟨D, rfl, V⟩ := V0
  refine enter (l := [("visits", .ref la)]) a (hn0 0 (by omega)) hf K T (ca91 K) (binds := [("visits", .ref la)]) (BindsTo.of_eq rfl) fun L h₁ t₁ A' E' a' S => ?_
  refine wpAny_execs_cons ?_
  repeat' wtm_at "mine w6"
  refine ⟨let ⟨_, hf⟩ := fa72 S.kinh; ⟨_, hf⟩, s_lately a' (hn0 1 (by omega)) S.kinh S.tb _ _ _ _ _ _ fun v new h2 t2 X2 T2 N2 D2 P2 => ?_⟩
  obtain ⟨f, B1, rfl, X1, hc1, S2⟩ := lately_of (S.call X2 T2 N2 D2) P2 hl hT hx hg
  clear S
  have S := S2
  clear S2
  repeat' wtm_at "mine w6"
  refine ⟨let ⟨_, hf⟩ := fa21 S.kinh; ⟨_, hf⟩, o_cmp a' (by omega) (by omega) S fun h3 t3 B2 kno X3 S hkn => ?_⟩
  replace hc1 := hc1.ext X3
  have Y := X1.trans X3
  have hl2 := hl.ext Y hT
  have hx2 := hx.mono fun _ _ z => IsV.ext z Y
  have V2 := V.ext Y
  have Df := V2.f
  have nf := V2.nf
  have Dd := V2.dx
  have ndx := V2.ndx
  repeat' wtm_at "mine w6"
  refine item_lst (S.old hl2 hT) (by decide) (by decide) (x := .ref D.f) hv4 ?_
  repeat' wtm_at "mine w6"
  refine ⟨let ⟨_, hf⟩ := fa72 S.kinh; ⟨_, hf⟩, s_lately a' (hn0 1 (by omega)) S.kinh S.tb _ _ _ _ _ _ fun v new h4 t4 X4 T4 N4 D4 P4 => ?_⟩
  obtain ⟨f2, B3, rfl, X5, hc2, S2⟩ := lately_of (S.call X4 T4 N4 D4) P4 hl2 hT hx2 hg
  clear S
  have S := S2
  clear S2
  repeat' wtm_at "mine w6"
  refine ⟨let ⟨_, hf⟩ := fa21 S.kinh; ⟨_, hf⟩, o_cmp a' (by omega) (by omega) S fun h6 t6 B4 kl X6 S hkl => ?_⟩
  replace hc2 := hc2.ext X6
  have Z := X5.trans X6
  replace hc1 := hc1.ext Z
  replace hkn := hkn.ext Z
  clear Df Dd
  have hl4 := hl2.ext Z hT
  have V4 := V2.ext Z
  have Df := V4.f
  have Dd := V4.dx
  repeat' wtm_at "mine w6"
  refine item_lst (S.old hl4 hT) (by decide) (by decide) (x := .ref D.f) hv4 ?_
  repeat' wtm_at "mine w6"
  have hgk := hgu k4 (List.mem_of_getElem? hk4)
  have hne := other_ne hgk
  have q1 : ∀ F : Int → Int → Int, ∀ x y, F x y = 0 → [Value.bool (decide (F x y < 0)), .bool (decide (F x y ≤ 0)), .bool (decide (F x y = 0)), .bool (decide (F x y ≥ 0)), .bool (decide (F x y > 0))] = bools [false, true, true, true, false] := fun F x y e => by
    rw [decide_eq_false (show ¬ F x y < 0 by omega), decide_eq_true (show F x y ≤ 0 by omega), decide_eq_true e, decide_eq_true (show F x y ≥ 0 by omega), decide_eq_false (show ¬ F x y > 0 by omega)]; rfl
  have q2 : ∀ F : Int → Int → Int, ∀ x y, F x y < 0 → [Value.bool (decide (F x y < 0)), .bool (decide (F x y ≤ 0)), .bool (decide (F x y = 0)), .bool (decide (F x y ≥ 0)), .bool (decide (F x y > 0))] = bools [true, true, false, false, false] := fun F x y e => by
    rw [decide_eq_true e, decide_eq_true (show F x y ≤ 0 by omega), decide_eq_false (show ¬ F x y = 0 by omega), decide_eq_false (show ¬ F x y ≥ 0 by omega), decide_eq_false (show ¬ F x y > 0 by omega)]; rfl
  have q3 : ∀ F : Int → Int → Int, ∀ x y, F x y > 0 → [Value.bool (decide (F x y < 0)), .bool (decide (F x y ≤ 0)), .bool (decide (F x y = 0)), .bool (decide (F x y ≥ 0)), .bool (decide (F x y > 0))] = bools [false, false, false, true, true] := fun F x y e => by
    rw [decide_eq_false (show ¬ F x y < 0 by omega), decide_eq_false (show ¬ F x y ≤ 0 by omega), decide_eq_false (show ¬ F x y = 0 by omega), decide_eq_true (show F x y ≥ 0 by omega), decide_eq_true e]; rfl
  refine ⟨hkn.ext S.keep, s_inst a' (by omega) (by omega) S.kinh S.tb (hkn.ext S.keep) _ _ _ _ _ _ fun v new ha1 ta1 Xa1 Ta1 Na1 Da1 Pa1 => ?_⟩
  obtain ⟨x1, C1, rfl, W1, hi1, S2⟩ := inst_of (S.call Xa1 Ta1 Na1 Da1) Pa1
  clear S
  have S := S2
  clear S2
  replace hkn := hkn.ext W1
  replace hkl := hkl.ext W1
  replace hc1 := hc1.ext W1
  replace hc2 := hc2.ext W1
  repeat' wtm_at "mine w6"
  refine ⟨hkn.ext S.keep, s_inst a' (by omega) (by omega) S.kinh S.tb (hkn.ext S.keep) _ _ _ _ _ _ fun v new ha2 ta2 Xa2 Ta2 Na2 Da2 Pa2 => ?_⟩
  obtain ⟨x2, C2, rfl, W2, hi2, S2⟩ := inst_of (S.call Xa2 Ta2 Na2 Da2) Pa2
  clear S
  have S := S2
  clear S2
  replace hkn := hkn.ext W2
  replace hkl := hkl.ext W2
  replace hc1 := hc1.ext W2
  replace hc2 := hc2.ext W2
  repeat' wtm_at "mine w6"
  refine ⟨let ⟨_, hf⟩ := fa84 S.kinh; ⟨_, hf⟩, s_five a' (by omega) (by omega) S.kinh S.tb (hkn.ext S.keep) (hc1.ext S.keep) ((hi1.ext W2).ext S.keep) (hi2.ext S.keep) _ _ _ _ _ _ fun v new hb1 tb1 Xb1 Tb1 Nb1 Db1 Pb1 => ?_⟩
  obtain ⟨r1, rfl, rfl⟩ := Pb1
  replace S := S.call Xb1 Tb1 Nb1 Db1
  rw [q1 _ _ _ (five_zero hg _ _)] at S
  simp only [List.cons_append, List.nil_append] at S
  repeat' wtm_at "mine w6"
  refine ⟨hkl.ext S.keep, s_inst a' (by omega) (by omega) S.kinh S.tb (hkl.ext S.keep) _ _ _ _ _ _ fun v new ha3 ta3 Xa3 Ta3 Na3 Da3 Pa3 => ?_⟩
  obtain ⟨x3, C3, rfl, W3, hi3, S2⟩ := inst_of (S.call Xa3 Ta3 Na3 Da3) Pa3
  clear S
  have S := S2
  clear S2
  replace hkn := hkn.ext W3
  replace hkl := hkl.ext W3
  replace hc1 := hc1.ext W3
  replace hc2 := hc2.ext W3
  repeat' wtm_at "mine w6"
  refine ⟨hkl.ext S.keep, s_inst a' (by omega) (by omega) S.kinh S.tb (hkl.ext S.keep) _ _ _ _ _ _ fun v new ha4 ta4 Xa4 Ta4 Na4 Da4 Pa4 => ?_⟩
  obtain ⟨x4, C4, rfl, W4, hi4, S2⟩ := inst_of (S.call Xa4 Ta4 Na4 Da4) Pa4
  clear S
  have S := S2
  clear S2
  replace hkn := hkn.ext W4
  replace hkl := hkl.ext W4
  replace hc1 := hc1.ext W4
  replace hc2 := hc2.ext W4
  repeat' wtm_at "mine w6"
  refine ⟨let ⟨_, hf⟩ := fa84 S.kinh; ⟨_, hf⟩, s_five a' (by omega) (by omega) S.kinh S.tb (hkl.ext S.keep) (hc2.ext S.keep) ((hi3.ext W4).ext S.keep) (hi4.ext S.keep) _ _ _ _ _ _ fun v new hb2 tb2 Xb2 Tb2 Nb2 Db2 Pb2 => ?_⟩
  obtain ⟨r2, rfl, rfl⟩ := Pb2
  replace S := S.call Xb2 Tb2 Nb2 Db2
  rw [q2 _ _ _ (five_lt h5 hk4 _)] at S
  simp only [List.cons_append, List.nil_append] at S
  repeat' wtm_at "mine w6"
  refine ⟨hkl.ext S.keep, s_inst a' (by omega) (by omega) S.kinh S.tb (hkl.ext S.keep) _ _ _ _ _ _ fun v new ha5 ta5 Xa5 Ta5 Na5 Da5 Pa5 => ?_⟩
  obtain ⟨x5, C5, rfl, W5, hi5, S2⟩ := inst_of (S.call Xa5 Ta5 Na5 Da5) Pa5
  clear S
  have S := S2
  clear S2
  replace hkn := hkn.ext W5
  replace hkl := hkl.ext W5
  replace hc1 := hc1.ext W5
  replace hc2 := hc2.ext W5
  repeat' wtm_at "mine w6"
  refine ⟨hkl.ext S.keep, s_inst a' (by omega) (by omega) S.kinh S.tb (hkl.ext S.keep) _ _ _ _ _ _ fun v new ha6 ta6 Xa6 Ta6 Na6 Da6 Pa6 => ?_⟩
  obtain ⟨x6, C6, rfl, W6, hi6, S2⟩ := inst_of (S.call Xa6 Ta6 Na6 Da6) Pa6
  clear S
  have S := S2
  clear S2
  replace hkn := hkn.ext W6
  replace hkl := hkl.ext W6
  replace hc1 := hc1.ext W6
  replace hc2 := hc2.ext W6
  repeat' wtm_at "mine w6"
  refine ⟨let ⟨_, hf⟩ := fa84 S.kinh; ⟨_, hf⟩, s_five a' (by omega) (by omega) S.kinh S.tb (hkl.ext S.keep) (hc2.ext S.keep) ((hi5.ext W6).ext S.keep) (hi6.ext S.keep) _ _ _ _ _ _ fun v new hb3 tb3 Xb3 Tb3 Nb3 Db3 Pb3 => ?_⟩
  obtain ⟨r3, rfl, rfl⟩ := Pb3
  replace S := S.call Xb3 Tb3 Nb3 Db3
  rw [q3 _ _ _ (five_gt h5 hk4 hne)] at S
  simp only [List.cons_append, List.nil_append] at S
  repeat' wtm_at "mine w6"
  exact backS (Y.trans (Z.trans (W1.trans (W2.trans (W3.trans (W4.trans (W5.trans W6))))))) S q ⟨_, _, _, _, rfl, rfl⟩ (by wtm_at "mine m_sl")

section
open PySem.Spec PyProof.V PySem.SeqAt
section
variable {w : World} {A : Around} {E : Value → Shared → Prop} {B h : Heap} {g : Array GenState} {d : Drawn} {t : Nat} {os : OsState} {own own' : Led} {a b la : Addr} {xs vs us : List Value} {n u : Nat} {Q : Value → Shared → Prop}
/-- a slice of any list, one just made too -/
theorem sub_sliceT {s : Shared} {env : Env} {value : Expr} {lo hi : Option Expr} {p pos : Pos}
    (q : wpM w A (eval value env) (fun o s₁ => wpM w A (eval (.Slice lo hi none p) env) (fun i s₂ => s₂.TypeIs o "list" ∧ wpM w A (getItem o i) Q E s₂) E s₁) E s) :
    wpM w A (eval (.Subscript value (.Slice lo hi none p) pos) env) Q E s := by
  show wpAny _ _ _ _ _ _
  rw [eval_Subscript]
  refine wpAny_bind (wpAny_mono q (fun o s₁ h₁ => wpAny_bind (wpAny_holding (wpAny_mono h₁ (fun i s₂ h₂ => wpAny_bind (wpAny_standAt ?_)) fun _ _ x => x))) fun _ _ x => x)
  have fin : wpAny (model Pr w) A (operate [i, o] (getItem o i)) (fun r s₃ => wpAny (model Pr w) A (letTemporaryGo value o r >>= fun _ => pure r) Q E s₃) E s₂ :=
    wpAny_operating (wpAny_mono h₂.2 (fun r s₃ h₃ => wpAny_bind (wpAny_letTemporaryGo (wpAny_pure h₃))) fun _ _ x => x)
  refine wpAny_bind ?_
  rw [getitemInPython_of_ne h₂.1.not_modules]
  refine wpAny_bind (wpAny_specialOf h₂.1 slot_list_getitem.lookup ?_)
  first
    | exact wpAny_pure (wpAny_bind fin)
    | exact wpAny_bind (wpAny_pure (wpAny_bind fin))
    | exact wpAny_bind fin
theorem o_neInts {ns ms : List Int} (hl : At h a (dList vs)) (hb : At h b (dList us)) (hi : IntsAre vs ns) (hi' : IntsAre us ms) (hu : A.units + 64 < cLine) (q : Q (.bool (!decide (ns = ms))) ⟨h, g, d, t, os⟩) :
    wpM w A (compareOp .NotEq (.ref a) (.ref b)) Q E ⟨h, g, d, t, os⟩ := ne_intsK (s := ⟨h, g, d, t, os⟩) hl.list hi hb.list hi' hu q
theorem front_len : ∀ (ov st : List Int), (ov.foldl toFront st).length ≤ st.length + ov.length
  | [], st => Nat.le_refl _
  | x :: ov, st => by
    have h1 := front_len ov (toFront st x)
    have h2 : (toFront st x).length ≤ st.length + 1 := by
      unfold toFront
      rw [List.length_cons]
      exact Nat.succ_le_succ (List.length_filter_le _ _)
    rw [List.foldl_cons, List.length_cons]
    omega
/-- what a reduce with _law_to_front holds to -/
def FrJ (h : Heap) (st ov : List Int) (i : Nat) (v : Value) (new : Led) : Prop :=
  ∃ ra hs, v = .ref ra ∧ (new = [(ra, dList hs)] ∨ (new = [] ∧ At h ra (dList hs) ∧ ra ∉ Tb)) ∧ IntsAre hs ((ov.take i).foldl toFront st)
theorem fr_step {st ov : List Int} {h' : Heap} {i : Nat} {v x : Value} {new : Led} (hn : Nat.blt n recursionLimit = true) (K : KIn w.params h) (hx : IntsAre xs ov) (hs : st.length ≤ 100) (ho : ov.length ≤ 100) (ao : AOk A n u) (X : Ext h h') (T : Tabs h')
    (hnew : ∀ p ∈ new, At h' p.1 p.2 ∧ p.1 ∉ Tb) (j : FrJ h st ov i v new) (hv : xs[i]? = some x) : (∃ fd, At h' 77 (dFun fd)) ∧ Does w A (call (.ref 77) [v, x] []) h' fun r new' _ => FrJ h st ov (i + 1) r new' := by
  have K' := K.ext X
  obtain ⟨ra, ys, rfl, hr, hi⟩ := j
  obtain ⟨m, tm, rfl, hm⟩ := hx.at i x hv
  have hl : At h' ra (dList ys) ∧ ra ∉ Tb := by
    rcases hr with rfl | ⟨rfl, h1, h2⟩
    · exact hnew _ (.head _)
    · exact ⟨h1.ext X h2, h2⟩
  have hz : ys.length ≤ 1000 := by
    rw [hi.length]
    have h1 := front_len (ov.take i) st
    have h2 := List.length_take_le' i ov
    omega
  refine ⟨let ⟨_, hf⟩ := fa77 K'; ⟨_, hf⟩, fun Q E g d t os q => s_front ao hn K' T hl.1 hl.2 hi hz Q E g d t os fun v new h2 t2 X2 T2 N2 D2 P2 => q v new h2 t2 X2 T2 N2 D2 ?_⟩
  obtain ⟨ha, hs, rfl, rfl, hh⟩ := P2
  refine ⟨ha, hs, rfl, .inl rfl, ?_⟩
  rw [List.take_add_one, hm, List.foldl_append]
  exact hh
theorem fr_end {st ov : List Int} {h8 : Heap} {v : Value} {new : Led} (P : FrJ h st ov ov.length v new) (S : St w B h8 (new ++ own)) (X : Ext h h8) : ∃ ra hs, v = .ref ra ∧ At h8 ra (dList hs) ∧ IntsAre hs (ov.foldl toFront st) ∧ St w B h8 own := by
  obtain ⟨ra, hs, rfl, hr, hi⟩ := P
  rw [List.take_length] at hi
  rcases hr with rfl | ⟨rfl, h1, h2⟩
  · exact ⟨ra, hs, rfl, S.mem .head, hi, S.tl⟩
  · exact ⟨ra, hs, rfl, h1.ext X h2, hi, S⟩
end
theorem overOf_snoc {ks : List K3} {hour : Int} {j : Nat} {k : K3} (hk : ks[j]? = some k) : overOf (ks.take (j + 1)) hour = overOf (ks.take j) hour ++ (if k.2.1 ≤ hour then [k.2.2] else []) := by
  have htk : ks.take (j + 1) = ks.take j ++ [k] := by rw [List.take_add_one, hk]; rfl
  rw [htk]; unfold overOf
  rw [List.filter_append, List.map_append]
  congr 1
  by_cases c : k.2.1 ≤ hour
  · rw [if_pos c]; simp [c]
  · rw [if_neg c]; simp; omega
theorem addLeft_new {l : List Int} {m : Int} (c : (!l.any fun x => x == m) = true) : addLeft l m = l ++ [m] := by
  unfold addLeft
  exact if_neg (fun e => by rw [e] at c; cases c)
theorem addLeft_old {l : List Int} {m : Int} (c : (!l.any fun x => x == m) = false) : addLeft l m = l := by
  unfold addLeft
  exact if_pos (by cases e : l.any fun x => x == m with | true => rfl | false => rw [e] at c; cases c)
theorem filter_new {f : Int → Bool} {l : List Int} {j : Nat} {m : Int} (h : l[j]? = some m) (c : f m = true) : (l.take (j + 1)).filter f = (l.take j).filter f ++ [m] := by
  rw [List.take_add_one, h, List.filter_append]
  simp [c]
theorem filter_old {f : Int → Bool} {l : List Int} {j : Nat} {m : Int} (h : l[j]? = some m) (c : f m = false) : (l.take (j + 1)).filter f = (l.take j).filter f := by
  rw [List.take_add_one, h, List.filter_append]
  simp [c]
theorem ints_pick {vs : List Value} {ns : List Int} (h : IntsAre vs ns) : ∀ {l : List Nat}, (∀ i ∈ l, i < vs.length) → IntsAre (l.map fun i => vs.getD i Value.none) (l.map fun i => ns.getD i 0)
  | [], _ => .nil
  | i :: l, hl => by
    have hi := hl i (.head _)
    obtain ⟨m, tm, e, hm⟩ := h.at i _ (List.getElem?_eq_getElem hi)
    have e1 : vs.getD i Value.none = .int m tm := by rw [List.getD_eq_getElem?_getD, List.getElem?_eq_getElem hi, e]; rfl
    have e2 : ns.getD i 0 = m := by rw [List.getD_eq_getElem?_getD, hm]; rfl
    rw [List.map_cons, List.map_cons, e1, e2]
    exact .cons m tm (ints_pick h fun j hj => hl j (.tail _ hj))
theorem int_at {vs : List Value} {ns : List Int} (h : IntsAre vs ns) {i : Nat} (hi : i < vs.length) : ∃ m tm, vs[i]? = some (.int m tm) ∧ ns.getD i 0 = m := by
  obtain ⟨m, tm, e, hm⟩ := h.at i _ (List.getElem?_eq_getElem hi)
  exact ⟨m, tm, by rw [List.getElem?_eq_getElem hi, e], by rw [List.getD_eq_getElem?_getD, hm]; rfl⟩
theorem bool_nil (ov : List Int) : ((!ov.isEmpty) != !decide (ov = [])) = false := by cases ov <;> rfl
theorem reads_bools {h : Heap} : ∀ bs : List Bool, ReadsAll h (bools bs) (bs.map .bool) []
  | [] => .nil
  | b :: bs => ReadsAll.cons (as := []) (Reads.bool b) (reads_bools bs)
theorem reads_three {h : Heap} {a l1 l2 l3 : Addr} {b1 b2 b3 : List Bool} (ha : At h a (dList [.ref l1, .ref l2, .ref l3])) (h1 : At h l1 (dList (bools b1))) (h2 : At h l2 (dList (bools b2))) (h3 : At h l3 (dList (bools b3))) :
    ∃ as, Reads h (.ref a) (.list [.list (b1.map .bool), .list (b2.map .bool), .list (b3.map .bool)]) as := by
  obtain ⟨o, e, n, rfl⟩ := ha
  obtain ⟨o1, e1, n1, rfl⟩ := h1
  obtain ⟨o2, e2, n2, rfl⟩ := h2
  obtain ⟨o3, e3, n3, rfl⟩ := h3
  exact ⟨_, Reads.list e rfl rfl (ReadsAll.cons (Reads.list e1 rfl rfl (by simpa using reads_bools b1)) (ReadsAll.cons (Reads.list e2 rfl rfl (by simpa using reads_bools b2)) (ReadsAll.cons (Reads.list e3 rfl rfl (by simpa using reads_bools b3)) .nil)))⟩
abbrev fivesD : PyData := .list [.list ([false, true, true, true, false].map .bool), .list ([true, true, false, false, false].map .bool), .list ([false, false, false, true, true].map .bool)]
theorem fivesD_shaped : shaped fivesD = true := by
  simp [fivesD, shaped, PyData.canLay0, PyData.canLayAll0, PyData.depth, PyData.depthAll]
theorem fivesD_mix : noMix fivesD fivesD = true := by simp [fivesD, noMix, noMixAll]
theorem fivesD_same : PySem.Spec.same fivesD fivesD = true := by simp [fivesD, PySem.Spec.same, PySem.Spec.sameAll]
theorem o_neFives {w : World} {A : Around} {E : Value → Shared → Prop} {h : Heap} {g : Array GenState} {d : Drawn} {t : Nat} {os : OsState} {a l1 l2 l3 b m1 m2 m3 : Addr} {Q : Value → Shared → Prop} (ha : At h a (dList [.ref l1, .ref l2, .ref l3])) (h1 : At h l1 (dList (bools [false, true, true, true, false]))) (h2 : At h l2 (dList (bools [true, true, false, false, false]))) (h3 : At h l3 (dList (bools [false, false, false, true, true])))
    (hb : At h b (dList [.ref m1, .ref m2, .ref m3])) (g1 : At h m1 (dList (bools [false, true, true, true, false]))) (g2 : At h m2 (dList (bools [true, true, false, false, false]))) (g3 : At h m3 (dList (bools [false, false, false, true, true]))) (hu : A.units + 64 < cLine) (q : Q (.bool false) ⟨h, g, d, t, os⟩) :
    wpM w A (compareOp .NotEq (.ref a) (.ref b)) Q E ⟨h, g, d, t, os⟩ := by
  obtain ⟨as, r1⟩ := reads_three ha h1 h2 h3
  obtain ⟨bs, r2⟩ := reads_three hb g1 g2 g3
  refine ne_dataH_same (s := ⟨h, g, d, t, os⟩) r1 r2 fivesD_shaped fivesD_shaped hu fivesD_mix ?_
  rw [fivesD_same]
  exact q

end
local macro_rules | `(tactic| wtm_at "mine w7") => `(tactic| first
  | with_reducible refine sub_sliceT ?_
  | wtm_at "mine w6"
  | ((with_reducible refine' callWith_kw ?_ ?zzhe ?zzhp ?zzha ?zzhk); (case zzhe => exact rfl); (case zzhp => exact rfl); (case zzha => exact rfl); (case zzhk => exact rfl))
  | with_reducible refine kws_cons ?_
  | with_reducible refine kws_nil ?_)
theorem s_law {w : World} {A : Around} {h : Heap} {sa : Addr} {vs : List Value} {ns : List Int} {n u : Nat} (a : AOk A n u) (hn : n ≤ 310) (hu : u ≤ 100) (K : KIn w.params h) (T : Tabs h) (hl : h.IsList sa vs.toArray) (hT : sa ∉ Tb) (hi : IntsAre vs ns) (hz : vs.length ≤ 1000) :
    Does w A (call (.ref 96) [.ref sa] []) h fun r new _ => new = [] ∧ r = .bool true := by
  intro Q E g d t os q
  obtain ⟨pm, hf⟩ := fa96 K
  have hrl : (400 : Nat) < recursionLimit := by decide
  have hcl : (400 : Nat) < cLine := by decide
  have hn0 : ∀ k, k ≤ 50 → Nat.blt (n + k) recursionLimit = true := fun k hk => Nat.ble_eq_true_of_le (by omega)
  refine enterC a (hn0 0 (by omega)) hf K T (ca96 K) (binds := [("script", .ref sa)]) (cls := fun L => [("left", L + 2), ("hour", L + 1)]) (led := fun L => [(L + 2, dCell none), (L + 1, dCell none)]) (l := [("script", .ref sa)]) rfl (fun _ => rfl) (fun _ => rfl) rfl (fun L h₁ t₁ A' E' a' S => ?_) (fun _ => rfl)
  simp only [List.cons_append, List.nil_append] at S
  refine wpAny_execs_cons ?_
  repeat' wtm_at "mine w6"
  refine ⟨let ⟨_, hf⟩ := fa51 S.kinh; ⟨_, hf⟩, s_visits a' (hn0 2 (by omega)) S.kinh S.tb (isL_ext hl S.keep hT) hT hi hz _ _ _ _ _ _ fun v new h2 t2 X2 T2 N2 D2 P2 => ?_⟩
  obtain ⟨la, ps, rfl, rfl, h5, hg, hgu, hcr⟩ := P2
  obtain ⟨B1, X1, hl1, nl, hx1, S2⟩ := visits_stand (S.call X2 T2 N2 D2) hcr
  clear S
  have S := S2
  clear S2 N2 D2
  generalize hks : ps.map (·.2) = ks at *
  have hk5 : ks.length = 5 := by rw [← hks, List.length_map, h5]
  have hgk : ∀ k ∈ ks, 0 ≤ k.2.2 ∧ k.2.2 < 3 := fun k hk => by
    rw [← hks] at hk
    obtain ⟨p, hp, rfl⟩ := List.mem_map.mp hk
    exact hgu p hp
  have hv5 : (vVals ps).length = 5 := by unfold vVals; rw [List.length_map, h5]
  generalize vVals ps = xs at *
  clear hcr hgu h5 hks ps
  repeat' wtm_at "mine w6"
  refine for_new (B := B1) (fun ys i B' rest' => ∃ hn l cl ch, IntsAre ys hn ∧ lk l "visits" = some (.ref la) ∧ rest' = [(L + 2, dCell cl), (L + 1, dCell ch), (L, dNs (lk l))]) a' ?_ ?_ ?_ (fun _ => rfl) (fun _ _ => rfl)
  · repeat' wtm_at "mine w6"
    refine ⟨let ⟨_, hf⟩ := fa58 S.kinh; ⟨_, hf⟩, s_hours a' (hn0 1 (by omega)) S.kinh S.tb (S.old hl1 nl) nl (hx1.mono fun _ _ z => z.ext S.keep) (by omega) _ _ _ _ _ _ fun v new h2 t2 X2 T2 N2 D2 P2 => ?_⟩
    obtain ⟨ha, hs, hn, rfl, rfl, hi1, _⟩ := P2
    obtain ⟨B2, X3, F2, S2⟩ := (S.call X2 T2 N2 D2).frz (new := [_]) (own' := [_, _, _]) (List.Perm.refl _)
    clear S
    have S := S2
    exact ⟨_, _, _, _, B2, _, rfl, rfl, X3, (F2 _ (.head _)).1, (F2 _ (.head _)).2, S, hn, _, _, _, hi1, by wtm_at "mine w_lk", rfl⟩
  · rintro ys i v lh B' rest' it h' t' E'' Post hv ⟨hn, l, cl, ch, hi1, j1, rfl⟩ X S pn _ _
    obtain ⟨hour, th, rfl, _⟩ := hi1.at i v hv
    refine wpAny_assign_Name ?_
    wtm_at "mine w_store"
    have hl2 := hl1.ext X nl
    have hx2 := hx1.mono fun _ _ z => IsV.ext z X
    refine wpAny_execs_cons ?_
    refine r_AssignCompN (xs := xs) (fun j ys Bc => IntsAre ys (overOf (ks.take j) hour)) a'.hd S hl2 nl .nil (fun Q' q' => ?_) ?_ l
      (fun D => [(it, dLIt lh (i + 1)), (L + 2, dCell cl), (L + 1, dCell (some (.int hour th))), (L, dNs (lk (setL "over" (.ref D) l)))]) (fun D => .tail (.tail (.tail .head))) ?_ rfl rfl (fun _ => rfl) rfl rfl rfl rfl rfl
    · repeat' wtm_at "mine w7"
      exact q'
    · rintro j v ys B2 l2 D C it2 h2 t2 E2 hv2 j8 X2 S
      obtain ⟨k, hk, V0⟩ := hx2.get hv2
      obtain ⟨D, rfl, V⟩ := V0.ext X2
      have Df := V.f
      have nf := V.nf
      have Dd := V.dx
      have ndx := V.ndx
      have htk : ks.take (j + 1) = ks.take j ++ [k] := by rw [List.take_add_one, hk]; rfl
      refine wpAny_assign_Name ?_
      have ovk := overOf_snoc (hour := hour) hk
      have hyl : ys.length ≤ sizeLine := by
        rw [sizeLine_eq, j8.length]
        unfold overOf
        rw [List.length_map]
        have h1 := List.length_filter_le (fun k : K3 => decide (k.2.1 ≤ hour)) (ks.take j)
        have h2 := List.length_take_le' j ks
        omega
      repeat' wtm_at "mine w7"
      · have c : k.2.1 ≤ hour := by assumption
        refine ⟨_, _, B2, _, rfl, ExtT.refl _ _, S, hyl, ?_⟩
        rw [ovk, if_pos c]
        exact j8.append (.cons _ _ .nil)
      · have c : ¬ k.2.1 ≤ hour := by assumption
        refine ⟨_, _, B2, _, rfl, ExtT.refl _ _, S, ?_⟩
        rw [ovk, if_neg c, List.append_nil]
        exact j8
    · rintro ys B2 D h2 t2 j8 X2 S
      rw [hv5, ← hk5, List.take_length] at j8
      have hov : overOf ks hour ∈ rows 5 := over_row (by omega) hgk
      have hol : (overOf ks hour).length ≤ 5 := by
        unfold overOf
        rw [List.length_map]
        exact Nat.le_trans (List.length_filter_le _ _) (by omega)
      have hgt := cmpF_gt ks hour
      have hlt := cmpF_lt ks hour
      generalize overOf ks hour = ov at *
      repeat' wtm_at "mine w7"
      obtain ⟨lf, rfl⟩ : ∃ x, x = a := ⟨a, rfl⟩
      obtain ⟨B3, X3, F3, S2⟩ := S.frz (new := [_]) (own' := [_, _, _, _, _]) (List.Perm.swap _ _ _)
      clear S
      have S := S2
      clear S2
      have DO := (F3 _ (.head _)).1
      have nO := (F3 _ (.head _)).2
      have hyz : ys.length ≤ sizeLine := by rw [sizeLine_eq, j8.length]; omega
      refine for_new (B := B3) (fun zs j B4 rest4 => ∃ lvs l4, IntsAre zs ov.reverse ∧ IntsAre lvs ((ov.reverse.take j).foldl addLeft []) ∧ lvs.length ≤ j ∧ lk l4 "visits" = some (.ref la) ∧ lk l4 "over" = some (.ref D) ∧
        rest4 = [(lf, dList lvs), (it, dLIt lh (i + 1)), (L + 2, dCell (some (.ref lf))), (L + 1, dCell (some (.int hour th))), (L, dNs (lk l4))]) a' ?_ ?_ ?_ (fun _ => rfl) (fun _ _ => rfl)
      · repeat' wtm_at "mine w7"
        refine ⟨_, _, _, _, rfl, S, fun _ _ z => (by cases z), fun sl h4 S => ?_⟩
        refine ⟨(S.old DO nO).list.typeIs, ?_⟩
        refine o_slice (lo := none) (hi := none) (st := some (-1)) S (S.old DO nO).list (S.mem .head) .none .none (.int _ _) (by decide) hyz fun wl h5 S => ?_
        rw [krv_pick] at S
        obtain ⟨B4, X4, F4, S2⟩ := S.frz (new := [_]) (own' := [_, _, _, _, _, _]) (List.Perm.refl _)
        refine ⟨_, _, _, _, B4, _, rfl, rfl, X4, (F4 _ (.head _)).1, (F4 _ (.head _)).2, S2.tl, _, _, ?_, .nil, Nat.le_refl _, by wtm_at "mine w_lk", by wtm_at "mine w_lk", rfl⟩
        simpa using j8.reverse
      · rintro zs j v lb B4 rest4 it4 h4 t4 E4 Post4 hv4 ⟨lvs, l4, j1', j2', j3', j4', j5', rfl⟩ X4 S pn4 _ _
        obtain ⟨m, tm, rfl, hm⟩ := j1'.at j v hv4
        have hfold : (ov.reverse.take (j + 1)).foldl addLeft [] = addLeft ((ov.reverse.take j).foldl addLeft []) m := by rw [List.take_add_one, hm, List.foldl_append]; rfl
        have hj5 : j < 5 := by have := (List.getElem?_eq_some_iff.mp hm).1; rw [List.length_reverse] at this; omega
        refine wpAny_assign_Name ?_
        wtm_at "mine w_store"
        refine wpAny_execs_cons ?_
        repeat' wtm_at "mine w7"
        refine o_notIn (S.mem (by wtm_at "mine m_lm")) j2' ?_
        repeat' wtm_at "mine w7"
        · have c : (!List.any ((ov.reverse.take j).foldl addLeft []) fun x => x == m) = true := by assumption
          refine o_append S (by wtm_at "mine m_lu") (by rw [sizeLine_eq]; omega) fun h5 S => ?_
          repeat' wtm_at "mine w7"
          refine pn4 _ _ _ B4 _ (.inl rfl) (ExtT.refl _ _) S ⟨_, _, j1', ?_, by rw [List.length_append]; simp; omega, by wtm_at "mine w_lk", by wtm_at "mine w_lk", rfl⟩
          rw [hfold, addLeft_new c]
          exact j2'.append (.cons m tm .nil)
        · have c : (!List.any ((ov.reverse.take j).foldl addLeft []) fun x => x == m) = false := by assumption
          refine pn4 _ _ _ B4 _ (.inl rfl) (ExtT.refl _ _) S ⟨_, _, j1', ?_, by omega, by wtm_at "mine w_lk", by wtm_at "mine w_lk", rfl⟩
          rw [hfold, addLeft_old c]
          exact j2'
      · rintro zs B4 rest4 h4 t4 ⟨lvs, l4, j1', j2', j3', j4', j5', rfl⟩ X4 S
        have hlz : lvs.length ≤ 5 := by rw [j1'.length, List.length_reverse] at j3'; omega
        have hleft : IntsAre lvs (leftOf ov) := by
          rw [j1'.length, List.take_length] at j2'
          exact j2'
        clear j1' j2' j3'
        repeat' wtm_at "mine w7"
        rename_i q1 q2 q3 q4 q5
        have r1 : 0 ≤ hour.fmod 3 := Int.fmod_nonneg_of_pos _ (by decide)
        have r2 : hour.fmod 3 < 3 := Int.fmod_lt_of_pos _ (by decide)
        generalize hr : hour.fmod 3 = r at *
        refine ⟨_, _, _, _, rfl, S, fun _ _ z => (by cases z), fun sl h5 S => ?_⟩
        have i0 : ∀ t1 t2 t3 : Tok, IntsAre [Value.int 0 t1, .int 1 t2, .int 2 t3] [0, 1, 2] := fun _ _ _ => .cons _ _ (.cons _ _ (.cons _ _ .nil))
        refine ⟨(S.mem (.tail .head)).list.typeIs, ?_⟩
        refine o_slice (lo := some r) (hi := none) (st := none) S (S.mem (.tail .head)).list (S.mem .head) (.int _ _) .none .none (by decide) (by show (3 : Nat) ≤ sizeLine; rw [sizeLine_eq]; decide) fun s1 h6 S => ?_
        have i1 := slice_ints_fromW (i0 q1 q2 q3) r1
        generalize (slicePick [Value.int 0 q1, .int 1 q2, .int 2 q3].toArray (some r) none none).toList = v1 at S i1
        repeat' wtm_at "mine w7"
        rename_i p1 p2 p3 p4 p5
        rw [hr]
        refine ⟨_, _, _, _, rfl, S, fun _ _ z => (by cases z), fun sm h7 S => ?_⟩
        refine ⟨(S.mem (.tail .head)).list.typeIs, ?_⟩
        refine o_slice (lo := none) (hi := some r) (st := none) S (S.mem (.tail .head)).list (S.mem .head) .none (.int _ _) .none (by decide) (by show (3 : Nat) ≤ sizeLine; rw [sizeLine_eq]; decide) fun s2 h8 S => ?_
        have i2 := slice_ints_uptoW (i0 p1 p2 p3) r1
        generalize (slicePick [Value.int 0 p1, .int 1 p2, .int 2 p3].toArray none (some r) none).toList = v2 at S i2
        have iS : IntsAre (v1 ++ v2) (standOf r.toNat) := i1.append i2
        have rl : r.toNat < 3 := by omega
        have sl3 : (standOf r.toNat).length = 3 := by
          have : r.toNat = 0 ∨ r.toNat = 1 ∨ r.toNat = 2 := by omega
          rcases this with e | e | e <;> rw [e] <;> rfl
        have vl3 : (v1 ++ v2).length = 3 := by rw [iS.length, sl3]
        obtain ⟨ck1, ck2, ck3, ck4, ck5⟩ := chk_parts (chk_of hov rl)
        generalize standOf r.toNat = st at *
        repeat' wtm_at "mine w7"
        refine o_addL S (S.mem (by wtm_at "mine m_lm")) (S.mem .head) (fun sd h9 S => ?_) (by rw [← List.length_append, vl3, sizeLine_eq]; decide)
        generalize v1 ++ v2 = sv at *
        clear i1 i2 r1 r2
        repeat' wtm_at "mine w7"
        obtain ⟨B5, X5, F5, S2⟩ := (S.sublist (own' := [(sd, dList sv), (lf, dList lvs), (it, dLIt lh (i + 1)), (L + 2, dCell (some (.ref lf))), (L + 1, dCell (some (.int hour th))), (L, _)]) (.cons_cons _ (.cons _ (.cons _ (.cons _ (.cons _ (.cons _ (.cons _ (.cons_cons _ (List.Sublist.refl _)))))))))).frz (new := [_, _]) (own' := [_, _, _, _]) (List.Perm.refl _)
        clear S
        have S := S2
        clear S2
        have DS := (F5 _ (.head _)).1
        have nS := (F5 _ (.head _)).2
        have DL := (F5 _ (.tail _ (.head _))).1
        have nL := (F5 _ (.tail _ (.head _))).2
        dsimp only at DS nS DL nL
        refine r_ListCompN (xs := sv) (fun j ys Bc => IntsAre ys ((st.take j).filter fun x => !(leftOf ov).any (· == x))) (AOk.hd a') S DS nS .nil (fun Q' q' => ?_) ?_ ?_ rfl (fun _ => rfl) rfl rfl rfl
        · repeat' wtm_at "mine w7"
          exact q'
        · rintro j v ws B6 l6 D6 C6 it6 h6 t6 E6 hv6 j10 X6 S
          obtain ⟨m, tm, rfl, hm⟩ := iS.at j v hv6
          have DL6 := DL.ext X6 nL
          have hyl : ws.length ≤ sizeLine := by
            have h1 := j10.length
            have h2 := List.length_filter_le (fun x => !(leftOf ov).any (· == x)) (st.take j)
            have h3 := List.length_take_le' j st
            rw [sizeLine_eq]; omega
          refine wpAny_assign_Name ?_
          repeat' wtm_at "mine w7"
          refine o_notIn (S.old DL6 nL) hleft ?_
          repeat' wtm_at "mine w7"
          · have c : (!(leftOf ov).any fun x => x == m) = true := by assumption
            refine ⟨_, _, B6, _, rfl, ExtT.refl _ _, S, hyl, ?_⟩
            rw [filter_new hm c]
            exact j10.append (.cons m tm .nil)
          · have c : (!(leftOf ov).any fun x => x == m) = false := by assumption
            refine ⟨_, _, B6, _, rfl, ExtT.refl _ _, S, ?_⟩
            rw [filter_old hm c]
            exact j10
        · rintro ws B6 D6 h6 t6 j10 X6 S
          rw [iS.length, List.take_length] at j10
          have hwl : ws.length ≤ 3 := by
            have h1 := j10.length
            have h2 := List.length_filter_le (fun x => !(leftOf ov).any (· == x)) st
            omega
          repeat' wtm_at "mine w7"
          refine o_addL S (S.old (DL.ext X6 nL) nL) (S.mem .head) (fun du h7 S => ?_) (by rw [sizeLine_eq]; omega)
          have iD : IntsAre (lvs ++ ws) (dueOf ov st) := hleft.append j10
          have dl3 : (lvs ++ ws).length = 3 := by rw [iD.length, ck2]
          generalize lvs ++ ws = dvs at *
          repeat' wtm_at "mine w7"
          obtain ⟨B7, X7, F7, S2⟩ := (S.sublist (own' := [(du, dList dvs), (it, dLIt lh (i + 1)), (L + 2, dCell (some (.ref lf))), (L + 1, dCell (some (.int hour th))), (L, _)]) (.cons_cons _ (.cons _ (List.Sublist.refl _)))).frz (new := [_]) (own' := [_, _, _, _]) (List.Perm.refl _)
          clear S
          have S := S2
          clear S2
          have DD := (F7 _ (.head _)).1
          have nD := (F7 _ (.head _)).2
          dsimp only at DD nD
          have Y3 := X2.trans X3
          have Y7 := X6.trans X7
          have Y47 := (X4.trans X5).trans Y7
          have hl7 := (hl2.ext Y3 nl).ext Y47 nl
          have hx7 := (hx2.mono fun _ _ z => IsV.ext z Y3).mono fun _ _ z => IsV.ext z Y47
          refine ⟨let ⟨_, hf⟩ := fa72 S.kinh; ⟨_, hf⟩, s_lately a' (hn0 1 (by omega)) S.kinh S.tb _ _ _ _ _ _ fun v new h8 t8 X8 T8 N8 D8 P8 => ?_⟩
          obtain ⟨cf, B8, rfl, Y8, hc, S2⟩ := lately_of (S.call X8 T8 N8 D8) P8 hl7 nl hx7 hg
          clear S
          have S := S2
          clear S2 N8 D8 P8
          repeat' wtm_at "mine w7"
          refine ⟨let ⟨_, hf⟩ := fa21 S.kinh; ⟨_, hf⟩, o_cmp a' (by omega) (by omega) S fun h9 t9 B9 kc X9 S hk => ?_⟩
          replace hc := hc.ext X9
          have Y79 := Y8.trans X9
          have DO9 := ((DO.ext (X4.trans X5) nO).ext Y7 nO).ext Y79 nO
          have DS9 := (DS.ext Y7 nS).ext Y79 nS
          have DL9 := (DL.ext Y7 nL).ext Y79 nL
          have DD9 := DD.ext Y79 nD
          have hl9 := hl7.ext Y79 nl
          have hx9 := hx7.mono fun _ _ z => IsV.ext z Y79
          have XX := (Y3.trans Y47).trans Y79
          clear DO DS DL DD hl7 hx7 Y7 Y47 Y8 X9 X8 T8
          repeat' wtm_at "mine w7"
          obtain ⟨p, rn, psz, plt, pdue⟩ := ck1
          refine o_sorted (KP := fun B i v => ∃ x m, v = Value.ref x ∧ st[i]? = some m ∧ IsInst B kc x m) (o := fun i j => isLs ov (st.getD i 0) (st.getD j 0)) (p := p) (T := .ref kc) a' S (S.old DS9 nS).list (by omega) (by omega) (by rw [vl3]; exact rn) (by rw [vl3]; exact psz) (by rw [vl3]; exact plt) ?_ ?_ ?_ rfl (beq_self_eq_true _) ?_ ?_
          · rintro B B' i v X ⟨x, m, e, h1, h3⟩
            exact ⟨x, m, e, h1, h3.ext X⟩
          · rintro A2 h' i v ao X T hv
            obtain ⟨m, tm, rfl, hm⟩ := iS.at i v hv
            intro Q E g dr t os q
            refine s_inst ao (by omega) (by omega) ((S.kin).ext X) T (hk.ext X) Q E g dr t os fun v new h2 t2 X2 T2 N2 D2 P2 => q v new h2 t2 X2 T2 N2 D2 fun B' Y F => ?_
            obtain ⟨x, dx, rfl, rfl⟩ := P2
            obtain ⟨⟨o1, e1, r1⟩, n1⟩ := F _ (.head _)
            obtain ⟨⟨o2, e2, r2⟩, n2⟩ := F _ (.tail _ (.head _))
            cases r1; cases r2
            exact ⟨x, m, rfl, hm, dx, tm, n1, n2, e1, e2⟩
          · rintro B' i v h' Y ⟨x, m, rfl, hm, dx, tm, n1, n2, e1, e2⟩ X
            exact (Looks.ld (X _ _ e1 n1)).andThen .now
          · rintro A2 B' h' i j ki kj ao Y X T ⟨x, m, rfl, hm, hI⟩ ⟨y, m', rfl, hm', hI'⟩
            have e1 : st.getD i 0 = m := by rw [List.getD_eq_getElem?_getD, hm]; rfl
            have e2 : st.getD j 0 = m' := by rw [List.getD_eq_getElem?_getD, hm']; rfl
            rw [e1, e2, ← hlt]
            exact s_key ao (by omega) (by omega) (((S.kin).ext Y).ext X) T ((hk.ext Y).ext X) ((hc.ext Y).ext X) (hI.ext X) (hI'.ext X)
          · rintro D2 B10 h10 t10 X10 S'
            clear S
            have S := S'
            clear S'
            have iP : IntsAre (p.toList.map fun i => sv.getD i Value.none) (dueOf ov st) := by
              rw [← pdue]
              exact ints_pick iS (by rw [vl3]; exact plt)
            generalize (p.toList.map fun i => sv.getD i Value.none) = pv at *
            repeat' wtm_at "mine w7"
            have au : A'.units + 64 < cLine := by have := a'.un; omega
            have DD10 := DD9.ext X10 nD
            have DS10 := DS9.ext X10 nS
            have DL10 := DL9.ext X10 nL
            have DO10 := DO9.ext X10 nO
            have hk10 := hk.ext X10
            have hc10 := hc.ext X10
            dsimp only at DO10 nO
            clear DD9 DS9 DL9 DO9 hk hc
            refine o_neInts (S.mem .head) (S.old DD10 nD) iP iD au ?_
            rw [decide_eq_true rfl]
            replace S := S.tl
            repeat' wtm_at "mine w7"
            refine o_addL S (S.mem .head) (S.old DO10 nO) (fun sq h11 S => ?_) (by rw [j8.length, sizeLine_eq, List.length_singleton]; omega)
            repeat' wtm_at "mine w7"
            have nq := S.ntb .head
            have hql := S.mem .head
            have hs0 := S.old DS10 nS
            refine ⟨let ⟨_, hf⟩ := fa30 S.kinh; ⟨_, hf⟩, s_reduce (xs := [.ref sd] ++ ys) (i₀ := 1) (v₀ := .ref sd) (fun i v new => 1 ≤ i ∧ FrJ h11 st ov (i - 1) v new) a' (hn0 2 (by omega)) S.kinh S.tb hql nq (.inr ⟨rfl, rfl, rfl⟩) ⟨Nat.le_refl _, _, _, rfl, .inr ⟨rfl, hs0, nS⟩, iS⟩
              (fun A h' i v x new u a X T hnew j hx => ?_) _ _ _ _ _ _ fun v new h12 t12 X12 T12 N12 D12 P12 => ?_⟩
            · obtain ⟨j1, j2⟩ := j
              obtain ⟨i', rfl⟩ : ∃ i', i = i' + 1 := ⟨i - 1, by omega⟩
              have := fr_step (hn0 2 (by omega)) S.kinh j8 (by omega) (by omega) a X T hnew (i := i') j2 (by simpa using hx)
              refine ⟨this.1, fun Q E g dr t os q => this.2 Q E g dr t os fun v new h' t' x1 x2 x3 x4 x5 => q v new h' t' x1 x2 x3 x4 ⟨by omega, x5⟩⟩
            · obtain ⟨_, P13⟩ := P12
              rw [List.length_append, j8.length, List.length_singleton, Nat.add_sub_cancel_left] at P13
              obtain ⟨ra, rvs, rfl, hra, hri, S13⟩ := fr_end P13 (S.call X12 T12 N12 D12) X12
              clear S
              have S := S13
              clear S13
              rw [ck3] at hri
              repeat' wtm_at "mine w7"
              refine o_neInts hra (S.old DD10 nD) hri iD au ?_
              rw [decide_eq_true rfl]
              replace S := S.tl
              repeat' wtm_at "mine w7"
              obtain ⟨em, rfl⟩ : ∃ x, x = a := ⟨a, rfl⟩
              have nem := S.ntb .head
              have hem := S.mem .head
              refine ⟨let ⟨_, hf⟩ := fa30 S.kinh; ⟨_, hf⟩, s_reduce (xs := ys) (i₀ := 0) (v₀ := .ref em) (FrJ _ [] ov) a' (hn0 2 (by omega)) S.kinh S.tb (S.old DO10 nO) nO (.inl ⟨rfl, rfl, _, _, rfl, hem, nem⟩) ⟨_, _, rfl, .inr ⟨rfl, hem, nem⟩, .nil⟩
                (fun A h' i v x new u a X T hnew j hx => fr_step (hn0 2 (by omega)) S.kinh j8 (by decide) (by omega) a X T hnew j hx) _ _ _ _ _ _ fun v new h14 t14 X14 T14 N14 D14 P14 => ?_⟩
              rw [j8.length] at P14
              obtain ⟨rb, rws, rfl, hrb, hrj, S15⟩ := fr_end P14 (S.call X14 T14 N14 D14) X14
              clear S
              have S := S15
              clear S15
              rw [ck4] at hrj
              repeat' wtm_at "mine w7"
              refine o_neInts hrb (S.old DL10 nL) hrj hleft au ?_
              rw [decide_eq_true rfl]
              replace S := S.sublist (own' := [(it, dLIt lh (i + 1)), (L + 2, dCell (some (.ref lf))), (L + 1, dCell (some (.int hour th))), (L, _)]) (.cons _ (.cons _ (List.Sublist.refl _)))
              obtain ⟨m2, u2, em2, gm2⟩ : ∃ m tm, dvs[2]? = some (.int m tm) ∧ (dueOf ov st).getD 2 0 = m := int_at iD (by omega)
              obtain ⟨m0, u0, em0, gm0⟩ : ∃ m tm, dvs[0]? = some (.int m tm) ∧ (dueOf ov st).getD 0 0 = m := int_at iD (by omega)
              rw [gm2, gm0] at ck5
              repeat' wtm_at "mine w7"
              refine item_lst (S.old DD10 nD) (by decide) (by decide) (x := .int m2 u2) em2 ?_
              repeat' wtm_at "mine w7"
              refine ⟨hk10.ext S.keep, s_inst a' (by omega) (by omega) S.kinh S.tb (hk10.ext S.keep) _ _ _ _ _ _ fun v new h16 t16 X16 T16 N16 D16 P16 => ?_⟩
              obtain ⟨x1, C1, rfl, W1, hi1', S17⟩ := inst_of (S.call X16 T16 N16 D16) P16
              clear S
              have S := S17
              clear S17
              replace hk10 := hk10.ext W1
              replace hc10 := hc10.ext W1
              have DD11 := DD10.ext W1 nD
              repeat' wtm_at "mine w7"
              refine item_lst (S.old DD11 nD) (by decide) (by decide) (x := .int m0 u0) em0 ?_
              repeat' wtm_at "mine w7"
              refine ⟨hk10.ext S.keep, s_inst a' (by omega) (by omega) S.kinh S.tb (hk10.ext S.keep) _ _ _ _ _ _ fun v new h18 t18 X18 T18 N18 D18 P18 => ?_⟩
              obtain ⟨x2, C2, rfl, W2, hi2', S19⟩ := inst_of (S.call X18 T18 N18 D18) P18
              clear S
              have S := S19
              clear S19
              replace hk10 := hk10.ext W2
              replace hc10 := hc10.ext W2
              have DO11 := (DO10.ext W1 nO).ext W2 nO
              repeat' wtm_at "mine w7"
              refine s_op2 a' (by omega) (by omega) S.kinh S.tb (hk10.ext S.keep) (hc10.ext S.keep) ((hi1'.ext W2).ext S.keep) (hi2'.ext S.keep) _ _ _ _ _ _ fun v new h20 t20 X20 T20 N20 D20 P20 => ?_
              obtain ⟨rfl, rfl⟩ := P20
              replace S := S.call0 X20 T20
              rw [hgt, ck5]
              repeat' wtm_at "mine w7"
              refine o_neInts (S.old DO11 nO) (S.mem .head) j8 .nil au ?_
              replace S := S.tl
              refine PyProof.Rows.ne_bool ?_
              rw [bool_nil]
              repeat' wtm_at "mine w7"
              exact pn _ _ _ C2 _ (.inl rfl) (XX.trans (X10.trans (W1.trans W2))) S ⟨hn, _, _, _, hi1, by wtm_at "mine w_lk", rfl⟩
  · rintro ys B' rest' h' t' ⟨hn, l, cl, ch, hi1, j1, rfl⟩ X S
    have au : A'.units + 64 < cLine := by have := a'.un; omega
    have hl2 := hl1.ext X nl
    have hx2 := hx1.mono fun _ _ z => IsV.ext z X
    repeat' wtm_at "mine w7"
    refine ⟨let ⟨_, hf⟩ := fa91 S.kinh; ⟨_, hf⟩, s_fives a' (by omega) (by omega) S.kinh S.tb (S.old hl2 nl) nl (hx2.mono fun _ _ z => IsV.ext z S.keep) hg hk5 hgk _ _ _ _ _ _ fun v new h2 t2 X2 T2 N2 D2 P2 => ?_⟩
    obtain ⟨ra, l1, l2, l3, rfl, rfl⟩ := P2
    replace S := S.call X2 T2 N2 D2
    simp only [List.cons_append, List.nil_append] at S
    repeat' wtm_at "mine w7"
    refine o_neFives (S.mem (by wtm_at "mine m_lm")) (S.mem (by wtm_at "mine m_lm")) (S.mem (by wtm_at "mine m_lm")) (S.mem (by wtm_at "mine m_lm")) (S.mem .head) (S.mem (.tail (.tail (.tail .head)))) (S.mem (.tail (.tail .head))) (S.mem (.tail .head)) au ?_
    replace S := S.sublist (own' := [(L + 2, dCell cl), (L + 1, dCell ch), (L, dNs (lk l))]) (.cons _ (.cons _ (.cons _ (.cons _ (.cons _ (.cons _ (.cons _ (.cons _ (List.Sublist.refl _)))))))))
    repeat' wtm_at "mine w7"
    refine ⟨let ⟨_, hf⟩ := fa65 S.kinh; ⟨_, hf⟩, s_program a' (hn0 1 (by omega)) S.kinh S.tb _ _ _ _ _ _ fun v new h4 t4 X4 T4 N4 D4 P4 => ?_⟩
    obtain ⟨pr, B5, rfl, X5, hp, S6⟩ := prog_of (S.call X4 T4 N4 D4) P4
    clear S
    have S := S6
    clear S6
    obtain ⟨k4, hk4⟩ : ∃ k4, ks[4]? = some k4 := ⟨_, List.getElem?_eq_getElem (by omega)⟩
    obtain ⟨v4, hv4⟩ : ∃ v4, xs[4]? = some v4 := ⟨_, List.getElem?_eq_getElem (by omega)⟩
    obtain ⟨k4', hk4', V0⟩ := hx2.get hv4
    rw [hk4] at hk4'; cases hk4'
    obtain ⟨D, rfl, V⟩ := V0.ext X5
    have Df := V.f
    have nf := V.nf
    have Dd := V.dx
    have ndx := V.ndx
    have hl5 := hl2.ext X5 nl
    repeat' wtm_at "mine w7"
    refine item_lst (S.old hl5 nl) (by decide) (by decide) (x := .ref D.f) hv4 ?_
    repeat' wtm_at "mine w7"
    refine ⟨let ⟨_, hf⟩ := fa37 S.kinh; ⟨_, hf⟩, s_rev a' (by omega) S.kinh S.tb (hp.ext S.keep) (S.old hl5 nl) nl ((hx2.mono fun _ _ z => IsV.ext z X5).mono fun _ _ z => IsV.ext z S.keep) hg _ _ _ _ _ _ fun v new h6 t6 X6 T6 N6 D6 P6 => ?_⟩
    obtain ⟨rfl, P7⟩ := P6
    have hno := nobody hgk P7
    subst hno
    replace S := S.call X6 T6 N6 D6
    repeat' wtm_at "mine w7"
    exact backS (X1.trans (X.trans X5)) S q ⟨rfl, rfl⟩ (List.nil_sublist _)

theorem tab_was {h h' : Heap} {b : Addr} {o : Obj} (hb : h.get? b = some { cls := .none, data := .fields #[] }) (ic : isCodeTable h b) (he : ∃ vs, h'.get? b = some { cls := .none, data := .fields vs }) (e : h.get? b = some o) : asItWas h h' b o ∧ ∃ o', h'.get? b = some o' := by
  obtain ⟨vs, he⟩ := he
  rw [hb] at e; cases e
  exact ⟨.inr (.inl ⟨ic, rfl, #[], vs, rfl, by rw [he]; simp⟩), _, he⟩
theorem old_of {P : Params} {h h' : Heap} (KX : (hp P).In h) (kp : Ext h h') (T : Tabs h') : OldK h h' := by
  have tb : ∀ e ∈ TS, ∃ vs, h'.get? e.1 = some { cls := .none, data := .fields vs } := fun e he => by
    obtain ⟨ps, h1, _⟩ := T.tt e he
    exact ⟨ps, h1⟩
  have h16 : ∃ vs, h'.get? 16 = some { cls := .none, data := .fields vs } := by
    rcases T.kt with e | ⟨C, e, _⟩ <;> exact ⟨_, e⟩
  have key : ∀ b o, b ∈ Tb → h.get? b = some o → asItWas h h' b o ∧ ∃ o', h'.get? b = some o' := by
    intro b o hb e
    have hb' : b = 16 ∨ b = 39 ∨ b = 60 ∨ b = 67 := by simpa using hb
    rcases hb' with rfl | rfl | rfl | rfl
    · exact tab_was (KX 16 _ rfl) ⟨20, _, _, KX 20 _ rfl, rfl, rfl, rfl⟩ h16 e
    · exact tab_was (KX 39 _ rfl) ⟨43, _, _, KX 43 _ rfl, rfl, rfl, rfl⟩ (tb (39, sp39) (by decide)) e
    · exact tab_was (KX 60 _ rfl) ⟨64, _, _, KX 64 _ rfl, rfl, rfl, rfl⟩ (tb (60, sp60) (by decide)) e
    · exact tab_was (KX 67 _ rfl) ⟨71, _, _, KX 71 _ rfl, rfl, rfl, rfl⟩ (tb (67, sp67) (by decide)) e
  refine ⟨fun b o e => ?_, fun b o e => ?_⟩
  · by_cases hb : b ∈ Tb
    · exact (key b o hb e).1
    · exact .inl (kp b o e hb)
  · by_cases hb : b ∈ Tb
    · exact (key b o hb e).2
    · exact ⟨o, kp b o e hb⟩
theorem kin_of {P : Params} {h : Heap} (KX : (hp P).In h) : KIn P h := fun a o e _ => KX a o e
theorem tabs_of {P : Params} {h : Heap} (KX : (hp P).In h) : Tabs h := by
  have one : ∀ (b : Addr) (sp : Spec), h.get? b = some (tabObj #[]) → TabOk Tb h b sp := fun b sp e => ⟨#[], e, by trivial, fun _ _ _ _ _ _ hc => by cases hc⟩
  refine ⟨fun e he => ?_, .inl (KX 16 _ rfl)⟩
  have he' : e = (39, sp39) ∨ e = (60, sp60) ∨ e = (67, sp67) := by simpa [TS] using he
  rcases he' with rfl | rfl | rfl
  · exact one 39 _ (KX 39 _ rfl)
  · exact one 60 _ (KX 60 _ rfl)
  · exact one 67 _ (KX 67 _ rfl)
theorem law_end {c : ClaimW} {cl : Str → Option Addr} {mean : ExcName → Option Value} {args : List WData} {s₁ : Shared} {h : Heap} {g : Array GenState} {d : Drawn} {t : Nat} (O : OldK s₁.heap h) (hr : ∀ cls, c.raises args cls = false) (hp : c.post args (.bool true) args = true) (hb : AllBare g) :
    GoodWG c cl mean args s₁ (.ok (.ret (.bool true))) ⟨h, g, d, t, s₁.os⟩ :=
  ⟨.inl ⟨_, _, [], rfl, hr, ReadsW.bool true, hp, fun _ => ⟨List.nodup_nil, fun _ hm => (nomatch hm)⟩⟩, O, rfl, hb⟩
theorem law_call {w : World} {s₁ : Shared} {c : ClaimW} {cl : Str → Option Addr} {mean : ExcName → Option Value} {args : List WData} {sa : Addr} {vs : List Value} {ns : List Int} (KX : (hp w.params).In s₁.heap) (hl : s₁.heap.IsList sa vs.toArray) (hi : IntsAre vs ns) (hz : vs.length ≤ 1000) (hg : s₁.gens = #[])
    (hr : ∀ cls, c.raises args cls = false) (hp : c.post args (.bool true) args = true) :
    wpAny (model Pr w) callerA (call (.ref 96) [.ref sa] []) (fun v s' => GoodWG c cl mean args s₁ (.ok (.ret v)) s') (fun e s' => GoodWG c cl mean args s₁ (.error e) s') s₁ := by
  obtain ⟨h, g, d, t, os⟩ := s₁
  have hg : g = #[] := hg
  subst hg
  have hsa : sa ∉ Tb := fun hm => by
    obtain ⟨o, e, hc, _⟩ := hl
    have hb' : sa = 16 ∨ sa = 39 ∨ sa = 60 ∨ sa = 67 := by simpa using hm
    rcases hb' with rfl | rfl | rfl | rfl
    · rw [show h.get? 16 = _ from KX 16 _ rfl] at e; cases e; cases hc
    · rw [show h.get? 39 = _ from KX 39 _ rfl] at e; cases e; cases hc
    · rw [show h.get? 60 = _ from KX 60 _ rfl] at e; cases e; cases hc
    · rw [show h.get? 67 = _ from KX 67 _ rfl] at e; cases e; cases hc
  refine s_law (n := 301) (u := 4) ⟨rfl, by decide, by decide⟩ (by decide) (by decide) (kin_of KX) (tabs_of KX) hl hsa hi hz _ _ _ _ _ _ fun v new h' t' kp T _ _ P => ?_
  obtain ⟨rfl, rfl⟩ := P
  exact law_end (old_of KX kp T) hr hp AllBare.empty

end Mine
theorem PySem.Challenge.cw_ij0010_01_holds : PySem.Challenge.rw_ij0010_01.Holds := by
  w_on
  o_law
  refine holds_openX (q := Mine.view) (loose := [Str.ofString "_initial_missing", Str.ofString "reduce"]) (Xt := fun s => xlAt Mine.view [] s && recOk (RowW.records PySem.Challenge.rw_ij0010_01.row.toRowW) s) (XP := XL Mine.view []) (Yf := X.obsZ Mine.hpAs) (Ya := X.valZ Mine.hp 97 316) (N := 1002) ?hl (fun s e => xl_of s (Bool.and_eq_true_iff.mp e).1) XL.keeps (by rfl) (by rfl) (by rfl) (fun s e => recFacts_of (Bool.and_eq_true_iff.mp e).2) (by rfl) (by first | assumption | decide +kernel) (by decide +kernel) ⟨rfl, rfl, rfl, rfl, rfl, by decide +kernel⟩ ?hw ?hc
  case hl =>
    intro w
    kernel_rfl
  case hw => w_witness2
  intro w s₀ s₁ mg mb G y fa o pm cd doc dV kV ho hd hcd hD hmg hg args vals as L hpre hlay hrd hwl hlo
  have KX : (Mine.hp w.params).In s₁.heap := InK.keeps w _ _ (X.z_facts (fun P => by kernel_rfl) y).2.1 (Laid.keeps L)
  refine Ground.open G ?_
  intro T B D TE TW
  wrow_args hpre hlay hrd hwl hlo
  x_fa T KX hmg
  all_lens
  have hI := (readsAll_intsAre (by assumption)).1
  have e := hI.length
  refine Mine.law_call KX (by assumption) hI (by omega) hg (fun _ => rfl) ?_
  first
    | rfl
    | wrow_post
