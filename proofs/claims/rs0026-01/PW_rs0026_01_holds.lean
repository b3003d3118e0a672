import PyProof.Rows.All
import Wide.All
import OpenK.AllK
import Wide.FinOn
import PySem.Challenge.RW_rs0026_01
open PySem PySem.W PyProof.Rows
set_option Elab.async false
set_option maxRecDepth 100000
set_option maxHeartbeats 8000000
namespace Mine
open_top hd for PySem.Challenge.rw_rs0026_01
section
def Ct (kd ku : Nat) (w : World) (f : Addr) (vs : List Value) (news : List (Addr × Obj)) (Out : List (Addr × Obj) → Value → Prop) : Prop :=
  ∀ (mean : ExcName → Option Value) (mg mb : Str → Option Value) (dp un : Nat) (gd : Option (List Code)) (cn : Str) (cs : Scope) (a : Addr) (ccd : Value) (cl : List (Str × Addr)) (outer : List Env) (A₀ : Around) (base h₀ : Heap) (L : Addr) (m : Str → Option Value) (s : Shared) (Q E : Value → Shared → Prop),
    Below A₀ base outer h₀ → Fr h₀ L s.heap m → (hd.heap_39 w.params).In h₀ → News h₀ L s.heap news → Top hd.view_39 (looseW hd.view_39 []) mean mg mb h₀ → cs.kind = .function → dp + kd < recursionLimit → un + ku < cLine →
    (∀ r tl h' tk', Fr h₀ L h' m → News h₀ L h' (news ++ tl) → (∀ q ∈ news, ∀ p ∈ tl, q.1 < p.1) → Out tl r → Q r { s with heap := h', toks := tk' }) →
    wpAny (model PySem.Challenge.rw_rs0026_01.row.prog w) (ktrTop dp un gd cn cs L a ccd cl outer) (call (.ref f) vs) Q E s
theorem fr_map {h₀ h : Heap} {L : Addr} {m : Str → Option Value} (m' : Str → Option Value) (F : Fr h₀ L h m) (e : m = m') : Fr h₀ L h m' := e ▸ F
theorem allLt_mem {d : Nat} : ∀ {l : List (Addr × Obj)}, AllLt d l → ∀ p ∈ l, p.1 < d
  | [], _, _, h => nomatch h
  | q :: r, x, p, h => by
    rcases List.mem_cons.mp h with rfl | h
    · exact x.1
    · exact allLt_mem x.2 p h
theorem Ct.use {kd ku : Nat} {w : World} {f : Addr} {vs : List Value} {news : List (Addr × Obj)} {Out : List (Addr × Obj) → Value → Prop} {mean : ExcName → Option Value} {mg mb : Str → Option Value} {dp un : Nat} {gd : Option (List Code)} {cn : Str} {cs : Scope} {a : Addr} {ccd : Value} {cl : List (Str × Addr)} {outer : List Env} {A₀ : Around} {base h₀ : Heap} {L : Addr} {m : Str → Option Value} {s : Shared} {Q E : Value → Shared → Prop}
    (C : Ct kd ku w f vs news Out) (B : Below A₀ base outer h₀) (F : Fr h₀ L s.heap m) (X : (hd.heap_39 w.params).In h₀) (N : News h₀ L s.heap news) (T : Top hd.view_39 (looseW hd.view_39 []) mean mg mb h₀) (hk : cs.kind = .function) (hd : dp + kd < recursionLimit) (hu : un + ku < cLine)
    (ret : ∀ r tl h' tk', Fr h₀ L h' m → News h₀ L h' (news ++ tl) → (∀ q ∈ news, ∀ p ∈ tl, q.1 < p.1) → Out tl r → Q r { s with heap := h', toks := tk' }) :
    wpAny (model PySem.Challenge.rw_rs0026_01.row.prog w) (ktrTop dp un gd cn cs L a ccd cl outer) (call (.ref f) vs) Q E s := C _ _ _ _ _ _ _ _ _ _ _ _ _ _ _ _ _ _ _ _ B F X N T hk hd hu ret
end
section

/-! the overlap table, as a plain function -/
def inner {α : Type} [DecidableEq α] (l : List α) (ts : List Int) (i : Nat) : Nat → Nat → Int
  | 0, _ => 0
  | f + 1, k => if l[i]? = l[k]? then (k : Int) + 1 else if k = 0 then 0 else inner l ts i f (ts.getD (k - 1) 0).toNat
def genStep {α : Type} [DecidableEq α] (l : List α) (ts : List Int) (i : Nat) : List Int := ts.set i (inner l ts i (i + 1) (ts.getD (i - 1) 0).toNat)
def genT {α : Type} [DecidableEq α] (l : List α) : Nat → List Int
  | 0 => List.replicate l.length 0
  | j + 1 => genStep l (genT l j) (j + 1)

/-- an item never lies above its place -/
def Low (ts : List Int) : Prop := ∀ k : Nat, 0 ≤ ts.getD k 0 ∧ ts.getD k 0 ≤ (k : Int)

section
variable {α : Type} [DecidableEq α] {l : List α} {ts : List Int} {i : Nat}
theorem inner_bound (h : Low ts) : ∀ (f k : Nat), 0 ≤ inner l ts i f k ∧ inner l ts i f k ≤ (k : Int) + 1
  | 0, k => by simp only [inner]; omega
  | f + 1, k => by
    simp only [inner]
    split
    · omega
    · split
      · omega
      · have h1 := inner_bound h f (ts.getD (k - 1) 0).toNat
        have h2 := h (k - 1)
        omega
theorem inner_fuel (h : Low ts) : ∀ (f f' k : Nat), k < f → k < f' → inner l ts i f k = inner l ts i f' k
  | 0, _, _, h1, _ => absurd h1 (Nat.not_lt_zero _)
  | _, 0, _, _, h2 => absurd h2 (Nat.not_lt_zero _)
  | f + 1, f' + 1, k, h1, h2 => by
    simp only [inner]
    split
    · rfl
    · split
      · rfl
      · have h3 := h (k - 1)
        exact inner_fuel h f f' _ (by omega) (by omega)
theorem low_set (h : Low ts) {v : Int} (h0 : 0 ≤ v) (h1 : v ≤ (i : Int)) : Low (ts.set i v) := by
  intro k
  have hk := h k
  simp only [List.getD_eq_getElem?_getD] at hk ⊢
  by_cases e : i = k
  · subst e
    by_cases hl : i < ts.length
    · simp [hl]; omega
    · simp [hl]
  · rw [List.getElem?_set_ne e]; exact hk
theorem genT_length (l : List α) : ∀ j, (genT l j).length = l.length
  | 0 => by simp [genT]
  | j + 1 => by simp [genT, genStep, genT_length l j]
theorem genT_low (l : List α) : ∀ j, Low (genT l j)
  | 0 => by
    intro k
    simp only [genT, List.getD_eq_getElem?_getD, List.getElem?_replicate]
    split <;> simp
  | j + 1 => by
    have ih := genT_low l j
    have h2 := ih j
    have h1 := inner_bound (l := l) (i := j + 1) ih (j + 1 + 1) ((genT l j).getD (j + 1 - 1) 0).toNat
    have e : j + 1 - 1 = j := by omega
    rw [e] at h1
    show Low ((genT l j).set (j + 1) (inner l (genT l j) (j + 1) (j + 1 + 1) ((genT l j).getD (j + 1 - 1) 0).toNat))
    rw [e]
    exact low_set ih h1.1 (by omega)
end

/-! a while with an else -/
section
variable {prog : Program} {w : World} {A : Around} {E : Value → Shared → Prop} {Q : Flow → Shared → Prop} {s : Shared} {env : Env} {h₀ : Heap} {L : Addr}
theorem while_else {σ : Type} {test : PySem.Expr} {body orelse : List Stmt} {pos : Pos} {m₀ : Str → Option Value} (Led : σ → List (Addr × Obj)) (ps : σ → List (Str × Value)) (Facts : σ → Prop) (stored : List Str) (P : σ → Prop) (μ : σ → Nat) (c₀ : σ)
    (F : Fr h₀ L s.heap m₀) (N : News h₀ L s.heap (Led c₀)) (hf : Facts c₀) (hk : ∀ p ∈ ps c₀, m₀ p.1 = some p.2) (hp : P c₀)
    (turn : ∀ (c : σ) (u : Str → Option Value) h tk, Facts c → P c → Fr h₀ L h (kstB (fun z => if stored.contains z then u z else m₀ z) (ps c)) → News h₀ L h (Led c) →
      wpAny (model prog w) A (isTrue test env (eval test env)) (fun b s₂ =>
        if b = true then wpAny (model prog w) A (execs body env) (KswPost h₀ L s Led ps Facts stored m₀ P μ Q c) E s₂ else wpAny (model prog w) A (execs orelse env) Q E s₂) E { s with heap := h, toks := tk })
    (hE : PassesOwn (model prog w) A env E := by passes_own) :
    wpAny (model prog w) A (exec (.While test body orelse pos) env) Q E s := by
  refine wpAny_While (codeAny_whileLoop (fun n s' => ∃ (c : σ) (h : Heap) (tk : Nat) (m : Str → Option Value), s' = { s with heap := h, toks := tk } ∧ Fr h₀ L h m ∧ News h₀ L h (Led c) ∧ μ c = n ∧ Facts c ∧ (∀ p ∈ ps c, m p.1 = some p.2) ∧ (∀ z, (∀ p ∈ ps c, z ≠ p.1) → stored.contains z = false → m z = m₀ z) ∧ P c) ?_ (μ c₀)
    ⟨c₀, s.heap, s.toks, m₀, rfl, F, N, rfl, hf, hk, fun _ _ _ => rfl, hp⟩)
  rintro n s' ⟨c, h, tk, m₁, rfl, F₁, N₁, rfl, hf', h1, h2, hp'⟩
  refine wpAny_mono (turn c m₁ h tk hf' hp' (ksw_fr h1 h2 F₁) N₁) (fun b s₂ q => ?_) hE
  cases b with
  | false =>
    simp only [Bool.false_eq_true, if_false] at q ⊢
    exact wpAny_mono q (fun _ _ x => x) hE
  | true =>
    simp only [if_true] at q ⊢
    refine wpAny_mono q (fun f s₃ r => ?_) hE
    cases f with
    | ret v => exact r
    | brk => exact r
    | next =>
      obtain ⟨c', h', tk', m', news', rfl, F', N', hn, hf9, hk9, hr9, hp9, hm9⟩ := r
      exact ⟨μ c', hm9, c', h', tk', m', rfl, F', fun p hp => N' p (hn p hp), rfl, hf9, hk9, hr9, hp9⟩
    | cont =>
      obtain ⟨c', h', tk', m', news', rfl, F', N', hn, hf9, hk9, hr9, hp9, hm9⟩ := r
      exact ⟨μ c', hm9, c', h', tk', m', rfl, F', fun p hp => N' p (hn p hp), rfl, hf9, hk9, hr9, hp9⟩
end
end
section
theorem gt_start (x : Str) : (List.replicate (x.length : Int).toNat [(0 : Int)]).flatten = genT x.cps.toList ([] : List Int).length := by
  simp only [List.length_nil, genT, Int.toNat_natCast]
  show _ = List.replicate x.cps.toList.length 0
  have e : x.cps.toList.length = x.length := by simp [Str.length]
  rw [e]
  induction x.length with
  | zero => rfl
  | succ n ih => rw [List.replicate_succ, List.flatten_cons, ih, List.replicate_succ]; rfl
def GotW (l : List Nat) (j : Nat) (c : Int × Tok) : Prop := 0 ≤ c.1 ∧ c.1 ≤ (j : Int) ∧ ∀ f, c.1.toNat < f → inner l (genT l j) (j + 1) f c.1.toNat = inner l (genT l j) (j + 1) (j + 1 + 1) ((genT l j).getD j 0).toNat
theorem got_start (l : List Nat) (j : Nat) (t : Tok) {kN : Int} (e : kN = 1 + (j : Int)) : GotW l j ((genT l j).getD (kN - 1).toNat 0, t) := by
  have e1 : (kN - 1).toNat = j := by omega
  have h := genT_low l j j
  rw [e1]
  refine ⟨h.1, h.2, fun f hf => inner_fuel (genT_low l j) _ _ _ hf ?_⟩
  omega
theorem item_eq {x : Str} {i k : Int} (hi : 0 ≤ i ∧ i < (x.length : Int)) (hk : 0 ≤ k ∧ k < (x.length : Int)) : (Txt.item x i = Txt.item x k) ↔ x.cps.toList[i.toNat]? = x.cps.toList[k.toNat]? := by
  rw [item_meets hi, item_meets hk]
  have e1 : i.toNat < x.cps.size := by have := hi.2; simp only [Str.length] at this; omega
  have e2 : k.toNat < x.cps.size := by have := hk.2; simp only [Str.length] at this; omega
  simp [e1, e2]
theorem got_set {l : List Nat} {kPre : List Int} {kN v : Int} (e : kN = 1 + (kPre.length : Int)) (hv : inner l (genT l kPre.length) (kPre.length + 1) (kPre.length + 1 + 1) ((genT l kPre.length).getD kPre.length 0).toNat = v) :
    (genT l kPre.length).set kN.toNat v = genT l (kPre ++ [kN]).length := by
  have e1 : kN.toNat = kPre.length + 1 := by omega
  rw [List.length_append, List.length_singleton, e1, ← hv]
  rfl
theorem got_brk {x : Str} {kPre : List Int} {kN gI : Int} (e : kN = 1 + (kPre.length : Int)) (hlt : kPre.length < ((x.length : Int) - 1).toNat)
    (gV : ∀ f, gI.toNat < f → inner x.cps.toList (genT x.cps.toList kPre.length) (kPre.length + 1) f gI.toNat = inner x.cps.toList (genT x.cps.toList kPre.length) (kPre.length + 1) (kPre.length + 1 + 1) ((genT x.cps.toList kPre.length).getD kPre.length 0).toNat)
    (hne : (Txt.item x kN != Txt.item x gI) = true) (h0 : gI = 0) : (genT x.cps.toList kPre.length).set kN.toNat 0 = genT x.cps.toList (kPre ++ [kN]).length := by
  refine got_set e ?_
  have h1 := gV 1 (by omega)
  rw [← h1]
  have hne' : Txt.item x kN ≠ Txt.item x gI := by simpa using hne
  rw [ne_eq, item_eq ⟨by omega, by omega⟩ ⟨by omega, by omega⟩] at hne'
  have e1 : kN.toNat = kPre.length + 1 := by omega
  rw [e1] at hne'
  simp only [inner]
  rw [if_neg hne', if_pos (by omega)]
theorem got_els {x : Str} {kPre : List Int} {kN gI : Int} (e : kN = 1 + (kPre.length : Int)) (hlt : kPre.length < ((x.length : Int) - 1).toNat) (g0 : 0 ≤ gI) (g1 : gI ≤ (kPre.length : Int))
    (gV : ∀ f, gI.toNat < f → inner x.cps.toList (genT x.cps.toList kPre.length) (kPre.length + 1) f gI.toNat = inner x.cps.toList (genT x.cps.toList kPre.length) (kPre.length + 1) (kPre.length + 1 + 1) ((genT x.cps.toList kPre.length).getD kPre.length 0).toNat)
    (hne : (Txt.item x kN != Txt.item x gI) = false) : (genT x.cps.toList kPre.length).set kN.toNat (gI + 1) = genT x.cps.toList (kPre ++ [kN]).length := by
  refine got_set e ?_
  have h1 := gV (gI.toNat + 1) (by omega)
  rw [← h1]
  have hne' : Txt.item x kN = Txt.item x gI := by simpa using hne
  rw [item_eq ⟨by omega, by omega⟩ ⟨by omega, by omega⟩] at hne'
  have e1 : kN.toNat = kPre.length + 1 := by omega
  rw [e1] at hne'
  simp only [inner]
  rw [if_pos hne']
  omega
theorem got_nxt {x : Str} {kPre : List Int} {kN gI : Int} {t : Tok} (e : kN = 1 + (kPre.length : Int)) (hlt : kPre.length < ((x.length : Int) - 1).toNat) (g0 : 0 ≤ gI) (g1 : gI ≤ (kPre.length : Int))
    (gV : ∀ f, gI.toNat < f → inner x.cps.toList (genT x.cps.toList kPre.length) (kPre.length + 1) f gI.toNat = inner x.cps.toList (genT x.cps.toList kPre.length) (kPre.length + 1) (kPre.length + 1 + 1) ((genT x.cps.toList kPre.length).getD kPre.length 0).toNat)
    (hne : (Txt.item x kN != Txt.item x gI) = true) (h0 : gI ≠ 0) : GotW x.cps.toList kPre.length ((genT x.cps.toList kPre.length).getD (gI - 1).toNat 0, t) := by
  have hlow := genT_low x.cps.toList kPre.length
  have hb := hlow (gI - 1).toNat
  refine ⟨hb.1, by omega, fun f hf => ?_⟩
  have h1 := gV (gI.toNat + 1) (by omega)
  rw [← h1]
  have hne' : Txt.item x kN ≠ Txt.item x gI := by simpa using hne
  rw [ne_eq, item_eq ⟨by omega, by omega⟩ ⟨by omega, by omega⟩] at hne'
  have e1 : kN.toNat = kPre.length + 1 := by omega
  rw [e1] at hne'
  conv => rhs; rw [inner]
  rw [if_neg hne', if_neg (by omega)]
  have e2 : gI.toNat - 1 = (gI - 1).toNat := by omega
  rw [e2]
  exact inner_fuel hlow _ _ _ hf (by show ((genT x.cps.toList kPre.length).getD (gI - 1).toNat 0).toNat < gI.toNat; omega)
theorem got_meas {l : List Nat} {j : Nat} {gI : Int} (g0 : 0 ≤ gI) (h0 : gI ≠ 0) : ((genT l j).getD (gI - 1).toNat 0).toNat < gI.toNat := by
  have hb := genT_low l j (gI - 1).toNat
  omega
theorem got_fin {h₀ h : Heap} {L D l' : Addr} {m : Str → Option Value} {news : List (Addr × Obj)} {s : Shared} {Q : Value → Shared → Prop} {Out : List (Addr × Obj) → Value → Prop} {o o' : Obj} {tk : Nat}
    (hret : ∀ r tl h' tk', Fr h₀ L h' m → News h₀ L h' (news ++ tl) → (∀ q ∈ news, ∀ p ∈ tl, q.1 < p.1) → Out tl r → Q r { s with heap := h', toks := tk' })
    (F : Fr h₀ L h m) (N : News h₀ L h ((D, o) :: (l', o') :: news)) (l : AllLt D news) (ho : Out [(D, o)] (.ref D)) : Q (.ref D) { s with heap := h, toks := tk } :=
  hret _ [(D, o)] _ _ F (fun p hp => N p ((List.mem_append.mp hp).elim (fun h => .tail _ (.tail _ h)) (fun h => by rw [List.mem_singleton.mp h]; exact .head _)))
    (fun q hq p hp => by rw [List.mem_singleton.mp hp]; exact allLt_mem l q hq) ho
theorem got (w : World) (x : Str) (t : Tok) (news : List (Addr × Obj)) (hx : x.length ≤ 9) (h1 : 1 ≤ x.length) : Ct 5 40 w 21 [.str x t] news (fun tl r => ∃ (a : Addr) (vs : List Value) (e : Nat), r = .ref a ∧ tl = [(a, listOf vs.toArray e)] ∧ IntsAre vs (genT x.cps.toList (x.length - 1))) := by
  unfold Ct
  k_with_none
  k_with "state" => first | exact gt_start _ | exact got_brk kEq kLt gV (by assumption) (by assumption) | exact got_els kEq kLt gI0 gI1 gV (by assumption) | exact got_nxt kEq kLt gI0 gI1 gV (by assumption) (by assumption)
  k_with "measure" => exact got_meas gI0 (by assumption)
  w_strict (k_fill; intro mean mg mb dp un gd cn cs a ccd cl outer A₀ base h₀ L m s Q E B F X N T hk hd hu hret; refine wpAny_call ?_; k_dflt ktr_enter
            rename Fr _ _ _ _ => F9
            replace F9 := fr_map (fun y => List.lookup y [(Str.ofString "prefix", Value.str x t)]) F9 (by with_unfolding_all rfl)
            repeat (first | (k_unfold; (try dsimp only)) | ((fail_if_success (with_reducible show wpAny _ _ (pyIter (Value.ref _)) _ _ _)); walk1))
            k_state (fun pre table => table = genT x.cps.toList pre.length) "table"
            (subst kInv
             have hlen := genT_length x.cps.toList kPre.length
             have hlx : x.cps.toList.length = x.length := by simp [Str.length]
             have hlow := genT_low x.cps.toList kPre.length
             have hlo1 := hlow (kN - 1).toNat
             repeat (first | (k_unfold; (try dsimp only)) | ((fail_if_success (with_reducible show wpAny _ _ (exec (Stmt.While _ _ _ _) _) _ _ _)); walk1))
             with_unfolding_all refine' while_else (σ := Int × Tok) (fun _ => _) (fun c => [(Str.ofString "idx", Value.int c.1 c.2)]) (fun _ => True) [] (GotW x.cps.toList kPre.length) (fun c => c.1.toNat) (_, _) (by assumption) (by assumption) trivial ?gk ?gp ?gt
             case gk => exact List.forall_mem_cons.mpr ⟨by with_unfolding_all rfl, List.forall_mem_nil _⟩
             case gp => exact got_start _ _ _ kEq
             case gt => (
               rintro ⟨gI, gTk⟩ gU gH gTok - gInv gF gN
               obtain ⟨gI0, gI1, gV⟩ := gInv
               dsimp only at gI0 gI1 gV
               dsimp only
               repeat' (first | (k_unfold; (try dsimp only)) | ((with_reducible show wpAny _ _ _ _ _ _); walk1) | ((with_reducible show ite _ _ _); walk1))
               all_goals (try dsimp only [KswPost, InvPostN])
               case' refine_1.refine'_4.refine_1.refine_1.refine'_4.refine'_4.refine'_9 => (
                 repeat' (first | (k_unfold; (try dsimp only)) | ((with_reducible show wpAny _ _ _ _ _ _); walk1) | ((with_reducible show ite _ _ _); walk1))
                 dsimp only [InvPostN])
               case' refine_1.refine'_4.refine_2.refine'_4.refine'_4.refine'_3.refine'_4 => (
                 refine ksw_end (_, _) (by assumption) (by assumption) (fun p hp => hp) trivial (by exact List.forall_mem_cons.mpr ⟨by with_unfolding_all rfl, List.forall_mem_nil _⟩) ?_ (by exact got_nxt kEq kLt gI0 gI1 gV (by assumption) (by assumption)) (by exact got_meas gI0 (by assumption))
                 intro z z1 _
                 have z4 := z1 _ (.head _)
                 dsimp only at z4
                 simp [kstB, z4])
               all_goals (
                 refine kst_end ⟨_, _, _⟩ (by assumption) (by assumption) (by exact List.forall_mem_cons.mpr ⟨.head _, List.forall_mem_cons.mpr ⟨.tail _ (.head _), fun p hp => .tail _ (.tail _ (List.mem_append_left _ hp))⟩⟩) (by exact fun p hp => .tail _ (.tail _ (List.mem_append_right _ hp))) (by rfl) (by assumption) (List.forall_mem_nil _) ?_ (by first | exact got_brk kEq kLt gV (by assumption) (by assumption) | exact got_els kEq kLt gI0 gI1 gV (by assumption))
                 intro z z1 _ z3
                 have z4 : z ≠ Str.ofString "idx" := by simpa using z3
                 simp [kstB, z4, z1])
               ))
            dsimp only
            repeat' (first | (k_unfold; (try dsimp only)) | ((with_reducible show wpAny _ _ _ _ _ _); walk1) | ((with_reducible show LeaveK _ _ _ _ _ _ _); walk1))
            rename News _ _ _ _ => kN9
            rename Fr _ _ _ _ => kF9
            rename _ ∧ AllLt _ _ => l9
            (have e9 : (rangeKs 1 ((x.length : Int) - 1).toNat).length = x.length - 1 := by rw [rangeKs_length]; omega)
            rw [e9] at kInv
            exact got_fin hret kF9 kN9 l9.2 ⟨_, _, _, rfl, rfl, kInv ▸ kFacts⟩)
end
section

def ltW (size : Int) : Nat → Int → Int → Int → Int → List Int → List Int → List Int × List Int
  | 0, _, _, _, _, line, rest => (line, rest)
  | f + 1, low, gap, a, b, line, rest =>
    if (line.length : Int) < size then
      if low < gap then ltW size f low (gap - low) a (a + b) (line ++ (rangeKs ((line.length : Int) + 1) (a + b - ((line.length : Int) + 1)).toNat).map (fun m => m - a)) (rest ++ (rangeKs ((line.length : Int) + 1) (a + b - ((line.length : Int) + 1)).toNat).map (fun m => m - 1 - min a b))
      else ltW size f (low - gap) gap (a + b) b (line ++ (rangeKs ((line.length : Int) + 1) (a + b - ((line.length : Int) + 1)).toNat).map (fun m => m - a)) (rest ++ (rangeKs ((line.length : Int) + 1) (a + b - ((line.length : Int) + 1)).toNat).map (fun m => m - 1 - min a b))
    else (line, rest)

def LtP (size : Int) (R : List Int × List Int) (line rest : List Int) (a b low gap : Int) : Prop :=
  1 ≤ a ∧ 1 ≤ b ∧ line.length = rest.length ∧ (line.length : Int) + 2 ≤ a + b ∧ a + b ≤ 2 * ((line.length : Int) + 1) ∧ line.length ≤ 17 ∧
    ∃ f : Nat, (size - (line.length : Int)).toNat < f ∧ ltW size f low gap a b line rest = R
theorem lt_start {size low gap : Int} {R : List Int × List Int} (hs : size ≤ 9) (hR : R = ltW size 10 low gap 1 1 [] []) : LtP size R [] [] 1 1 low gap :=
  ⟨by decide, by decide, rfl, by decide, by decide, by decide, 10, by simp only [List.length_nil]; omega, hR.symm⟩
section
variable {size ka kb lo ga : Int} {R : List Int × List Int} {ts rs ts' rs' : List Int}
theorem lt_next1 (P : LtP size R ts rs ka kb lo ga) (hs : size ≤ 9) (hlt : (ts.length : Int) < size) (h : lo < ga)
    (e1 : ts' = ts ++ (rangeKs ((ts.length : Int) + 1) (ka + kb - ((ts.length : Int) + 1)).toNat).map (fun m => m - ka))
    (e2 : rs' = rs ++ (rangeKs ((ts.length : Int) + 1) (ka + kb - ((ts.length : Int) + 1)).toNat).map (fun m => m - 1 - min ka kb)) : LtP size R ts' rs' ka (ka + kb) lo (ga - lo) := by
  obtain ⟨g1, g2, g3, g4, g5, g6, f, hf, hR⟩ := P
  have l1 : ts'.length = ts.length + (ka + kb - ((ts.length : Int) + 1)).toNat := by rw [e1]; simp [rangeKs_length]
  have l2 : rs'.length = rs.length + (ka + kb - ((ts.length : Int) + 1)).toNat := by rw [e2]; simp [rangeKs_length]
  obtain ⟨f', rfl⟩ : ∃ f', f = f' + 1 := ⟨f - 1, by omega⟩
  rw [ltW, if_pos hlt, if_pos h, ← e1, ← e2] at hR
  exact ⟨g1, by omega, by omega, by omega, by omega, by omega, f', by omega, hR⟩
theorem lt_next2 (P : LtP size R ts rs ka kb lo ga) (hs : size ≤ 9) (hlt : (ts.length : Int) < size) (h : ¬ lo < ga)
    (e1 : ts' = ts ++ (rangeKs ((ts.length : Int) + 1) (ka + kb - ((ts.length : Int) + 1)).toNat).map (fun m => m - ka))
    (e2 : rs' = rs ++ (rangeKs ((ts.length : Int) + 1) (ka + kb - ((ts.length : Int) + 1)).toNat).map (fun m => m - 1 - min ka kb)) : LtP size R ts' rs' (ka + kb) kb (lo - ga) ga := by
  obtain ⟨g1, g2, g3, g4, g5, g6, f, hf, hR⟩ := P
  have l1 : ts'.length = ts.length + (ka + kb - ((ts.length : Int) + 1)).toNat := by rw [e1]; simp [rangeKs_length]
  have l2 : rs'.length = rs.length + (ka + kb - ((ts.length : Int) + 1)).toNat := by rw [e2]; simp [rangeKs_length]
  obtain ⟨f', rfl⟩ : ∃ f', f = f' + 1 := ⟨f - 1, by omega⟩
  rw [ltW, if_pos hlt, if_neg h, ← e1, ← e2] at hR
  exact ⟨by omega, g2, by omega, by omega, by omega, by omega, f', by omega, hR⟩
theorem lt_exit (P : LtP size R ts rs ka kb lo ga) (hlt : ¬ (ts.length : Int) < size) : R = (ts, rs) := by
  obtain ⟨g1, g2, g3, g4, g5, g6, f, hf, hR⟩ := P
  obtain ⟨f', rfl⟩ : ∃ f', f = f' + 1 := ⟨f - 1, by omega⟩
  rw [ltW, if_neg hlt] at hR
  exact hR.symm
end
theorem lt_fin {h₀ h : Heap} {L l' D D1 A1 A2 : Addr} {m : Str → Option Value} {news : List (Addr × Obj)} {s : Shared} {Q : Value → Shared → Prop} {Out : List (Addr × Obj) → Value → Prop} {o o1 o2 oa ob : Obj} {tk : Nat}
    (hret : ∀ r tl h' tk', Fr h₀ L h' m → News h₀ L h' (news ++ tl) → (∀ q ∈ news, ∀ p ∈ tl, q.1 < p.1) → Out tl r → Q r { s with heap := h', toks := tk' })
    (F : Fr h₀ L h m) (N : News h₀ L h ((l', o) :: (D, o2) :: (D1, o1) :: (A1, oa) :: (A2, ob) :: news)) (x1 : AllLt D1 news) (x2 : AllLt D news) (x3 : AllLt l' news) (ho : Out [(l', o), (D1, o1), (D, o2)] (.ref l')) : Q (.ref l') { s with heap := h, toks := tk } :=
  hret _ [(l', o), (D1, o1), (D, o2)] _ _ F (fun p hp => N p ((List.mem_append.mp hp).elim (fun h => .tail _ (.tail _ (.tail _ (.tail _ (.tail _ h))))) (fun h => by
      rcases List.mem_cons.mp h with rfl | h
      · exact .head _
      · rcases List.mem_cons.mp h with rfl | h
        · exact .tail _ (.tail _ (.head _))
        · rw [List.mem_singleton.mp h]; exact .tail _ (.head _))))
    (fun q hq p hp => by
      rcases List.mem_cons.mp hp with rfl | h
      · exact allLt_mem x3 q hq
      · rcases List.mem_cons.mp h with rfl | h
        · exact allLt_mem x1 q hq
        · rw [List.mem_singleton.mp h]; exact allLt_mem x2 q hq) ho
structure LtS where
  vs : List Value
  ts : List Int
  e : Nat
  us : List Value
  rs : List Int
  f : Nat
  a : Int
  ta : Tok
  b : Int
  tb : Tok
  lo : Int
  tlo : Tok
  ga : Int
  tga : Tok
theorem ints_snoc {k : Int} {t : Tok} : ∀ {vs : List Value} {ns : List Int}, IntsAre vs ns → IntsAre (vs ++ [.int k t]) (ns ++ [k])
  | _, _, .nil => .cons _ _ .nil
  | _, _, .cons _ _ h => .cons _ _ (ints_snoc h)
theorem min_if (a b : Int) : (if b < a then b else a) = min a b := by
  rw [Int.min_def]; split <;> split <;> omega
structure LtT where
  vs : List Value
  ts : List Int
  e : Nat
  us : List Value
  rs : List Int
  f : Nat
theorem ltab (w : World) (low gap size : Int) (t1 t2 t3 : Tok) (news : List (Addr × Obj)) (hs : 2 ≤ size) (hs' : size ≤ 9) (R : List Int × List Int) (hR : R = ltW size 10 low gap 1 1 [] []) : Ct 5 40 w 55 [.int low t1, .int gap t2, .int size t3] news (fun tl r => ∃ (a b c : Addr) (vs us : List Value) (e f g : Nat), r = .ref a ∧ tl = [(a, listOf #[.ref b, .ref c] e), (b, listOf vs.toArray f), (c, listOf us.toArray g)] ∧
    IntsAre vs (R.1.take size.toNat) ∧ IntsAre us ((R.2.take size.toNat).drop 1)) := by
  unfold Ct
  k_with_none
  w_top off
  k_with "state" => exact lt_start hs' hR
  w_strict (k_fill; intro mean mg mb dp un gd cn cs a ccd cl outer A₀ base h₀ L m s Q E B F X N T hk hd hu hret; refine wpAny_call ?_; k_dflt ktr_enter
            rename Fr _ _ _ _ => F9
            replace F9 := fr_map (fun y => List.lookup y [(Str.ofString "size", Value.int size t3), (Str.ofString "gap", Value.int gap t2), (Str.ofString "low", Value.int low t1)]) F9 (by with_unfolding_all rfl)
            repeat (first | (k_unfold; (try dsimp only)) | ((fail_if_success (with_reducible show wpAny _ _ (exec (Stmt.While _ _ _ _) _) _ _ _)); walk1))
            rename_i lineA hA1 lA1 hA2 tkA restA hB1 lB1 hB2 hC1 hC2 F8 N8
            with_unfolding_all refine' ksw_while (σ := LtS) (fun c => (restA, listOf c.us.toArray c.f) :: (lineA, listOf c.vs.toArray c.e) :: news) (fun c => [(Str.ofString "a", .int c.a c.ta), (Str.ofString "b", .int c.b c.tb), (Str.ofString "low", .int c.lo c.tlo), (Str.ofString "gap", .int c.ga c.tga)]) (fun c => IntsAre c.vs c.ts ∧ IntsAre c.us c.rs) [Str.ofString "m"] (fun c => LtP size R c.ts c.rs c.a c.b c.lo c.ga) (fun c => (size - (c.ts.length : Int)).toNat) ⟨[], [], 0, [], [], 0, 1, _, 1, _, low, _, gap, _⟩ F8 N8 ⟨.nil, .nil⟩ ?gk (lt_start hs' hR) ?gt
            case gk => exact List.forall_mem_cons.mpr ⟨by with_unfolding_all rfl, List.forall_mem_cons.mpr ⟨by with_unfolding_all rfl, List.forall_mem_cons.mpr ⟨by with_unfolding_all rfl, List.forall_mem_cons.mpr ⟨by with_unfolding_all rfl, List.forall_mem_nil _⟩⟩⟩⟩
            case gt => (
              clear F8 N8
              rintro ⟨vs, ts, e, us, rs, f, ka, ta, kb, tb, lo, tlo, ga, tga⟩ gU gH gTok gFacts gInv gF gN
              dsimp only at gFacts gInv gF gN
              obtain ⟨gI1, gI2⟩ := gFacts
              have kMark := kstMark
              have gL1 := gI1.length
              have gL2 := gI2.length
              have gP := gInv
              obtain ⟨g1, g2, g3, g4, g5, g6, -⟩ := gInv
              repeat' (first | (k_unfold; (try dsimp only)) | ((fail_if_success (with_reducible show wpAny _ _ (pyIter (Value.ref _)) _ _ _)); (with_reducible show wpAny _ _ _ _ _ _); walk1) | ((with_reducible show ite _ _ _); walk1))
              focus (
                rename Fr _ _ _ _ => F7
                rename News _ _ _ _ => N7
                rename IsRange _ _ _ _ _ _ _ _ => R7
                with_unfolding_all refine' kst_range (σ := LtT) (n := (ka + kb - ((ts.length : Int) + 1)).toNat) (fun c => (restA, listOf c.us.toArray c.f) :: (lineA, listOf c.vs.toArray c.e) :: news) (fun _ => []) (fun c => IntsAre c.vs c.ts ∧ IntsAre c.us c.rs) [] (fun pre c => c.ts = ts ++ pre.map (fun m => m - ka) ∧ c.rs = rs ++ pre.map (fun m => m - 1 - min ka kb)) ⟨vs, ts, e, us, rs, f⟩ rfl R7 ?r1 ?r2 F7 N7 ⟨gI1, gI2⟩ (List.forall_mem_nil _) ⟨by simp, by simp⟩ ?gt ?gd
                case r1 => exact small_one (by omega) (by omega) (by omega) (by omega)
                case r2 => exact rangeSize_nat _ _
                case gt => (
                  clear F7 N7 R7
                  rintro ⟨vs', ts', e', us', rs', f'⟩ pre kN kT u kH kTk own kEq kLt kOff kFacts kInv kFr kNews
                  dsimp only at kFacts kInv kFr kNews
                  obtain ⟨kI1, kI2⟩ := kFacts
                  obtain ⟨kv1, kv2⟩ := kInv
                  have kL1 := kI1.length
                  have kL2 := kI2.length
                  have kL3 : ts'.length = ts.length + pre.length := by rw [kv1]; simp
                  have kL4 : rs'.length = rs.length + pre.length := by rw [kv2]; simp
                  simp only [List.map_cons, List.cons_append] at kNews kOff
                  try k_fold
                  repeat' (first | (k_unfold; (try dsimp only)) | ((with_reducible show wpAny _ _ _ _ _ _); walk1) | ((with_reducible show ite _ _ _); walk1))
                  dsimp only [InvPostN]
                  rename News _ _ _ _ => N6
                  simp only [List.push_toArray] at N6
                  refine kst_end ⟨_, _, _, _, _, _⟩ (by assumption) N6 (by exact List.forall_mem_cons.mpr ⟨.head _, List.forall_mem_cons.mpr ⟨.tail _ (.head _), fun p hp => .tail _ (.tail _ (List.mem_append_left _ hp))⟩⟩) (by exact fun p hp => .tail _ (.tail _ (List.mem_append_right _ hp))) (by rfl) (by exact ⟨ints_snoc kI1, ints_snoc kI2⟩) (List.forall_mem_nil _) ?_ (by exact ⟨by rw [kv1]; simp, by rw [kv2, min_if]; simp⟩)
                  intro z z1 _ z3
                  simp [kstB, z1])
                case gd => (
                  clear F7 N7 R7
                  rintro ⟨vs', ts', e', us', rs', f'⟩ u kH kTk kFacts kInv kFr kNews
                  dsimp only at kFacts kInv kFr kNews
                  obtain ⟨kI1, kI2⟩ := kFacts
                  obtain ⟨kv1, kv2⟩ := kInv
                  have kL1 := kI1.length
                  have kL2 := kI2.length
                  have kL3 : ts'.length = ts.length + (ka + kb - ((ts.length : Int) + 1)).toNat := by rw [kv1]; simp [rangeKs_length]
                  have kL4 : rs'.length = rs.length + (ka + kb - ((ts.length : Int) + 1)).toNat := by rw [kv2]; simp [rangeKs_length]
                  dsimp only
                  repeat' (first | (k_unfold; (try dsimp only)) | ((with_reducible show wpAny _ _ _ _ _ _); walk1) | ((with_reducible show ite _ _ _); walk1))
                  all_goals dsimp only [KswPost]
                  case' refine'_4.refine'_4.refine_1.refine'_4.refine'_4.refine'_4.refine'_4.refine'_4.refine'_4 => refine ksw_end ⟨vs', ts', e', us', rs', f', ka, _, ka + kb, _, lo, _, ga - lo, _⟩ (by assumption) (by assumption) (fun p hp => hp) ⟨kI1, kI2⟩ (by exact List.forall_mem_cons.mpr ⟨by with_unfolding_all rfl, List.forall_mem_cons.mpr ⟨by with_unfolding_all rfl, List.forall_mem_cons.mpr ⟨by with_unfolding_all rfl, List.forall_mem_cons.mpr ⟨by with_unfolding_all rfl, List.forall_mem_nil _⟩⟩⟩⟩) ?_ (lt_next1 gP hs' (by assumption) (by assumption) kv1 kv2) (by dsimp only; omega)
                  case' refine'_4.refine'_4.refine_2.refine'_4.refine'_4.refine'_4.refine'_4.refine'_4.refine'_4 => refine ksw_end ⟨vs', ts', e', us', rs', f', ka + kb, _, kb, _, lo - ga, _, ga, _⟩ (by assumption) (by assumption) (fun p hp => hp) ⟨kI1, kI2⟩ (by exact List.forall_mem_cons.mpr ⟨by with_unfolding_all rfl, List.forall_mem_cons.mpr ⟨by with_unfolding_all rfl, List.forall_mem_cons.mpr ⟨by with_unfolding_all rfl, List.forall_mem_cons.mpr ⟨by with_unfolding_all rfl, List.forall_mem_nil _⟩⟩⟩⟩) ?_ (lt_next2 gP hs' (by assumption) (by assumption) kv1 kv2) (by dsimp only; omega)
                  all_goals (
                    intro z z1 z3
                    have z4 := z1 _ (.head _)
                    have z5 := z1 _ (.tail _ (.head _))
                    have z6 := z1 _ (.tail _ (.tail _ (.head _)))
                    have z7 := z1 _ (.tail _ (.tail _ (.tail _ (.head _))))
                    have z8 : z ≠ Str.ofString "m" := by simpa using z3
                    dsimp only at z4 z5 z6 z7
                    simp [kstB, z4, z5, z6, z7, z8])))
              repeat' (first | (k_unfold; (try dsimp only)) | ((with_reducible show wpAny _ _ _ _ _ _); walk1) | ((with_reducible show LeaveK _ _ _ _ _ _ _); walk1))
              rename News _ _ _ _ => kN9
              rename Fr _ _ _ _ => kF9
              rename IntsAre _ (List.take _ (List.drop _ _)) => kJ2
              rename IntsAre _ (List.take _ ts) => kJ1
              rename ¬ (_ < size) => kX1
              have kR := lt_exit gP kX1
              have kE : List.take (min size.toNat rs.length - 1) (List.drop 1 rs) = (R.2.take size.toNat).drop 1 := by
                rw [kR, List.drop_take, Nat.min_eq_left (by omega)]
              have kE1 : List.take size.toNat ts = R.1.take size.toNat := by rw [kR]
              rw [kE] at kJ2
              rw [kE1] at kJ1
              exact lt_fin hret kF9 kN9 (by simp_all) (by simp_all) (by simp_all) ⟨_, _, _, _, _, _, _, _, rfl, rfl, kJ1, kJ2⟩)
            )
  w_top on
end
section
section
variable {prog : Program} {w : World} {A : Around} {E : Value → Shared → Prop} {s : Shared}
/-- a list or a tuple as a source of sorted -/
def IsSeq (h : Heap) (l : Addr) (its : Array Value) : Prop := ∃ o, h.get? l = some o ∧ (o.cls = .type "list" ∨ o.cls = .type "tuple") ∧ ∃ n, o.data = .seq its n
theorem collect_seq {l : Addr} {vs : List Value} {Q : List Value → Shared → Prop} (hl : IsSeq s.heap l vs.toArray)
    (h : Q vs { s with heap := (s.heap.push (seqObj "list" #[] 0)).update s.heap.objs.size (Obj.mapSeq (· ++ vs.toArray)) }) (hsz : vs.length ≤ sizeLine) :
    wpAny (model prog w) A (collect (.ref l)) Q E s := by
  obtain ⟨o, ho, hc, n, hd⟩ := hl
  rcases hc with hc | hc
  · exact collect_list ⟨o, ho, hc, n, hd⟩ h hsz
  · unfold collect
    refine wpAny_bind (wpAny_runValue (codeAny_builtin entry_proto_collect' ?_))
    show wpAny _ _ (do again (.builtin "list.__iadd__" ⟨[← newList [], .ref l], []⟩)) _ _ s
    refine wpAny_bind (wpAny_newList (wpAny_pure ⟨Code.quiet_builtin _ (by decide +kernel), codeAny_builtin entry_list_iadd' ?_⟩))
    show wpAny _ _ (Builtin.List.listExtendWith (.ref s.heap.objs.size) (.ref l) (.ref s.heap.objs.size)) _ _ { s with heap := s.heap.push (seqObj "list" #[] 0) }
    unfold Builtin.List.listExtendWith
    have ho' : (s.heap.push (seqObj "list" #[] 0)).get? l = some o := Heap.get?_push_of_some _ ho
    refine wpAny_bind (wpAny_typeOf (T := "tuple") ⟨o, ho', hc⟩ ?_)
    have ht : (Value.type "tuple" == Value.type "tuple") = true := by rfl
    rw [if_pos (by rw [ht]; simp)]
    refine wpAny_bind (listItems_at ho' hd ?_)
    refine wpAny_bind (listItems_at (xs := #[]) (n := 0) (Heap.get?_push_size _ rfl) rfl ?_)
    rw [if_neg (by simp)]
    refine wpAny_bind (listUpdate_at (xs := #[]) (n := 0) (Heap.get?_push_size _ rfl) rfl ?_ (Nat.zero_le _) (by show (#[] ++ vs.toArray).size ≤ sizeLine + 1; simp only [Array.size_append, List.size_toArray, List.length_nil]; omega))
    refine wpAny_pure ?_
    show wpAny (model prog w) A (do
        let o ← load s.heap.objs.size
        match o.data with
        | .seq xs _ => pure xs.toList
        | _ => unsupported "internal:collect") Q E { s with heap := (s.heap.push (seqObj "list" #[] 0)).update s.heap.objs.size (Obj.mapSeq (· ++ vs.toArray)) }
    refine wpAny_bind (wpAny_load (get?_update_seq (Heap.get?_push_size _ rfl) _) ?_)
    show wpAny _ _ (pure ((#[] : Array Value) ++ vs.toArray).toList) Q E _
    rw [show ((#[] : Array Value) ++ vs.toArray).toList = vs by simp]
    exact wpAny_pure h
theorem sorted_seq {l : Addr} {vs : List Value} {ss : List Str} {Q : Value → Shared → Prop} (hl : IsSeq s.heap l vs.toArray) (hS : StrsAre vs ss) (h64 : vs.length < 64)
    (h : ∀ (out : Array Value) (ss' : List Str), StrsAre out.toList ss' → ss'.Perm ss → sortedS ss' = true → Q (.ref (s.heap.objs.size + 1)) { s with heap := sortedAll s.heap vs out }) :
    wpAny (model prog w) A (call (.builtin "sorted") [.ref l]) Q E s := by
  refine Calls.call_function_entry kind_sorted plain_sorted entry_sorted (args_sorted1 _) ?_
  unfold Builtin.«sorted»
  refine wpAny_bind (m := checkCount "sorted" 1 1 _) (wpAny_pure ?_)
  refine wpAny_bind (collect_seq hl ?_ (by rw [sizeLine_eq]; omega))
  refine wpAny_bind (wpAny_newList ?_)
  have hsz : ((s.heap.push (seqObj "list" #[] 0)).update s.heap.objs.size (Obj.mapSeq (· ++ vs.toArray))).objs.size = s.heap.objs.size + 1 := by
    rw [Heap.size_update, size_push']
  have hoL : (((s.heap.push (seqObj "list" #[] 0)).update s.heap.objs.size (Obj.mapSeq (· ++ vs.toArray))).push (seqObj "list" vs.toArray 0)).get? (s.heap.objs.size + 1) = some (seqObj "list" vs.toArray 0) := by
    rw [← hsz]; exact Heap.get?_push_size _ rfl
  show wpAny _ _ _ _ _ { s with heap := ((s.heap.push (seqObj "list" #[] 0)).update s.heap.objs.size (Obj.mapSeq (· ++ vs.toArray))).push (seqObj "list" vs.toArray 0) }
  rw [hsz]
  refine wpAny_bind (wpAny_holding (wpAny_call_entry slot_list_sort ⟨_, hoL, rfl⟩ entry_list_sort (list_sort_treeK strKind_oneLt hoL hS.keysOf (fun v₁ v₂ rest e => keyKind_strs (by rw [← e]; exact hS)) h64 fun st' a1 a2 => ⟨_, rfl, ?_⟩) (args_list_sort _)))
  obtain ⟨ss', h1, h2, h3⟩ := sorted_out_str hS a1 a2
  exact wpAny_pure ⟨_, rfl, h _ ss' h1 h2 h3⟩
theorem sorted_N_seq {h₀ : Heap} {L : Addr} {m : Str → Option Value} {news : List (Addr × Obj)} {l : Addr} {vs : List Value} {ss : List Str} {Q : Value → Shared → Prop}
    (F : Fr h₀ L s.heap m) (N : News h₀ L s.heap news) (hl : IsSeq s.heap l vs.toArray) (hS : StrsAre vs ss) (h64 : vs.length < 64)
    (h : ∀ (D : Addr) (h' : Heap) (vs' : List Value) (ss' : List Str) (e : Nat), Fr h₀ L h' m → News h₀ L h' ((D, listOf vs'.toArray e) :: news) → (∀ p ∈ news, p.1 < D) →
      StrsAre vs' ss' → ss'.Perm ss → sortedS ss' = true → Q (.ref D) { s with heap := h' }) :
    wpAny (model prog w) A (call (.builtin "sorted") [.ref l]) Q E s := by
  refine sorted_seq hl hS h64 fun out ss' a1 a2 a3 => ?_
  obtain ⟨e, he⟩ := sortedAll_at s.heap vs out
  exact h _ _ out.toList ss' e (F.kept fun _ _ => sortedAll_old) (N.kept_cons F (fun _ _ => sortedAll_old) (Nat.le_succ _) he) (fun p hp => Nat.lt_succ_of_lt (Heap.lt_size (N p hp).1)) a1 a2 a3
end
end
section
theorem item_strs {prog : Program} {w : World} {A : Around} {E : Value → Shared → Prop} {s : Shared} {h₀ : Heap} {L : Addr} {news : List (Addr × Obj)} {value slice : PySem.Expr} {D : Addr} {vs : List Value} {ws : List Str} {e : Nat} {k : Int} {u : Tok} {Q : Value → Shared → Prop}
    (N : News h₀ L s.heap news) (hm : (D, listOf vs.toArray e) ∈ news) (hS : StrsAre vs ws) (h0 : 0 ≤ k) (h1 : k < (ws.length : Int)) (h64 : ws.length < 64) (h : ∀ y t, ws[k.toNat]? = some y → Q (.str y t) s)
    (hs : subscripted slice false (.ref D) (.int k u) = operate [.ref D, .int k u] (getItem (.ref D) (.int k u)) := by with_unfolding_all rfl) :
    wpAny (model prog w) A (subscriptTail value slice (.ref D) (.int k u)) Q E s := by
  have hlt : k.toNat < ws.length := by omega
  obtain ⟨t, ht⟩ := hS.get k.toNat ws[k.toNat] (by simp [hlt])
  exact item_litK ⟨_, (N _ hm).1, rfl, e, rfl⟩ h0 (by omega) ht (h _ t (by simp [hlt])) hs
theorem fdiv2 (n : Nat) : (n : Int).fdiv 2 = ((n / 2 : Nat) : Int) := by
  rw [Int.fdiv_eq_ediv_of_nonneg _ (by omega)]; omega
theorem fmod2 (n : Nat) : (n : Int).fmod 2 = ((n % 2 : Nat) : Int) := by
  rw [Int.fmod_eq_emod_of_nonneg _ (by omega)]; omega
theorem ret0 {h₀ h : Heap} {L : Addr} {m : Str → Option Value} {news news' : List (Addr × Obj)} {s : Shared} {Q : Value → Shared → Prop} {Out : List (Addr × Obj) → Value → Prop} {tk : Nat} {r : Value}
    (hret : ∀ r tl h' tk', Fr h₀ L h' m → News h₀ L h' (news ++ tl) → (∀ q ∈ news, ∀ p ∈ tl, q.1 < p.1) → Out tl r → Q r { s with heap := h', toks := tk' })
    (F : Fr h₀ L h m) (N : News h₀ L h news') (hn : ∀ p ∈ news, p ∈ news') (ho : Out [] r) : Q r { s with heap := h, toks := tk } :=
  hret _ [] _ _ F (fun p hp => N p (hn p (by simpa using hp))) (fun _ _ _ h => nomatch h) ho
theorem medlow (w : World) (l : Addr) (o : Obj) (vs : List Value) (n : Nat) (ss : List Str) (news : List (Addr × Obj)) (hm : (l, o) ∈ news) (hc : o.cls = .type "list" ∨ o.cls = .type "tuple") (hdt : o.data = .seq vs.toArray n) (hS : StrsAre vs ss) (h0 : 0 < ss.length) (h64 : ss.length < 64) :
    Ct 5 40 w 41 [.ref l] news (fun tl r => tl = [] ∧ ∃ (y : Str) (t : Tok) (ss' : List Str), r = .str y t ∧ ss'.Perm ss ∧ sortedS ss' = true ∧ ss'[(ss.length - 1) / 2]? = some y) := by
  unfold Ct
  k_with_none
  have hvl := hS.length
  w_strict (k_fill; intro mean mg mb dp un gd cn cs a ccd cl outer A₀ base h₀ L m s Q E B F X N T hk hd hu hret; refine wpAny_call ?_; k_dflt ktr_enter
            rename Fr _ _ _ _ => F9
            replace F9 := fr_map (fun y => List.lookup y [(Str.ofString "data", Value.ref l)]) F9 (by with_unfolding_all rfl)
            repeat (first | (k_unfold; (try dsimp only)) | ((fail_if_success (with_reducible show wpAny _ _ (call (Value.builtin "sorted") _) _ _ _)); walk1))
            rename News _ _ _ _ => N9
            with_unfolding_all refine' sorted_N_seq F9 N9 ⟨o, (N9 _ hm).1, hc, n, hdt⟩ hS (by omega) ?_
            clear F9 N9
            intro D h1 vs' ss' e F9 N9 lt9 hS' hp' hs'
            have hvl' := hS'.length
            have hpl := hp'.length_eq
            have kMark := kstMark
            repeat' (first | (k_unfold; (try dsimp only)) | ((with_reducible show wpAny _ _ _ _ _ _); walk1) | ((with_reducible show ite _ _ _); walk1))
            case' refine_1.refine'_5 => (exfalso; omega)
            all_goals (
              rename News _ _ _ _ => N8
              simp only [fdiv2, fmod2] at *
              with_unfolding_all refine' item_strs N8 (.head _) hS' (by omega) (by omega) (by omega) ?_ (by with_unfolding_all rfl)
              intro y9 t9 hy9
              try dsimp only
              repeat' (first | (k_unfold; (try dsimp only)) | ((with_reducible show wpAny _ _ _ _ _ _); walk1) | ((with_reducible show LeaveK _ _ _ _ _ _ _); walk1))
              rename News _ _ _ _ => N7
              rename Fr _ _ _ _ => F7
              exact ret0 hret F7 N7 (fun p hp => .tail _ hp) ⟨rfl, y9, t9, ss', rfl, hp', hs', by rw [← hy9]; congr 1; omega⟩))
theorem medhigh (w : World) (l : Addr) (o : Obj) (vs : List Value) (n : Nat) (ss : List Str) (news : List (Addr × Obj)) (hm : (l, o) ∈ news) (hc : o.cls = .type "list" ∨ o.cls = .type "tuple") (hdt : o.data = .seq vs.toArray n) (hS : StrsAre vs ss) (h0 : 0 < ss.length) (h64 : ss.length < 64) :
    Ct 5 40 w 48 [.ref l] news (fun tl r => tl = [] ∧ ∃ (y : Str) (t : Tok) (ss' : List Str), r = .str y t ∧ ss'.Perm ss ∧ sortedS ss' = true ∧ ss'[ss.length / 2]? = some y) := by
  unfold Ct
  k_with_none
  have hvl := hS.length
  w_strict (k_fill; intro mean mg mb dp un gd cn cs a ccd cl outer A₀ base h₀ L m s Q E B F X N T hk hd hu hret; refine wpAny_call ?_; k_dflt ktr_enter
            rename Fr _ _ _ _ => F9
            replace F9 := fr_map (fun y => List.lookup y [(Str.ofString "data", Value.ref l)]) F9 (by with_unfolding_all rfl)
            repeat (first | (k_unfold; (try dsimp only)) | ((fail_if_success (with_reducible show wpAny _ _ (call (Value.builtin "sorted") _) _ _ _)); walk1))
            rename News _ _ _ _ => N9
            with_unfolding_all refine' sorted_N_seq F9 N9 ⟨o, (N9 _ hm).1, hc, n, hdt⟩ hS (by omega) ?_
            clear F9 N9
            intro D h1 vs' ss' e F9 N9 lt9 hS' hp' hs'
            have hvl' := hS'.length
            have hpl := hp'.length_eq
            have kMark := kstMark
            repeat' (first | (k_unfold; (try dsimp only)) | ((with_reducible show wpAny _ _ _ _ _ _); walk1) | ((with_reducible show ite _ _ _); walk1))
            case' refine_1.refine'_5 => (exfalso; omega)
            all_goals (
              rename News _ _ _ _ => N8
              simp only [fdiv2, fmod2] at *
              with_unfolding_all refine' item_strs N8 (.head _) hS' (by omega) (by omega) (by omega) ?_ (by with_unfolding_all rfl)
              intro y9 t9 hy9
              try dsimp only
              repeat' (first | (k_unfold; (try dsimp only)) | ((with_reducible show wpAny _ _ _ _ _ _); walk1) | ((with_reducible show LeaveK _ _ _ _ _ _ _); walk1))
              rename News _ _ _ _ => N7
              rename Fr _ _ _ _ => F7
              exact ret0 hret F7 N7 (fun p hp => .tail _ hp) ⟨rfl, y9, t9, ss', rfl, hp', hs', by rw [← hy9]; congr 1; omega⟩))
end
section
theorem lawlow (w : World) (l : Addr) (o : Obj) (vs : List Value) (n : Nat) (ss : List Str) (news : List (Addr × Obj)) (hm : (l, o) ∈ news) (hc : o.cls = .type "list" ∨ o.cls = .type "tuple") (hdt : o.data = .seq vs.toArray n) (hS : StrsAre vs ss) (h0 : 0 < ss.length) (h64 : ss.length < 64) :
    Ct 10 80 w 62 [.ref l] news (fun tl r => tl = [] ∧ ∃ (y : Str) (t : Tok) (ss' : List Str), r = .str y t ∧ ss'.Perm ss ∧ sortedS ss' = true ∧ ss'[(ss.length - 1) / 2]? = some y) := by
  unfold Ct
  k_with_none
  w_strict (k_fill; intro mean mg mb dp un gd cn cs a ccd cl outer A₀ base h₀ L m s Q E B F X N T hk hd hu hret; refine wpAny_call ?_; k_dflt ktr_enter
            rename Fr _ _ _ _ => F9
            replace F9 := fr_map (fun y => List.lookup y [(Str.ofString "rows", Value.ref l)]) F9 (by with_unfolding_all rfl)
            repeat (first | (k_unfold; (try dsimp only)) | ((fail_if_success (with_reducible show wpAny _ _ (call (Value.ref _) _) _ _ _)); walk1))
            k_dflt (refine' Ct.use (medlow w l o vs n ss news hm hc hdt hS h0 h64) ?k1 ?k2 ?k3 ?k4 ?k5 ?kK ?kd ?ku ?_; (case k1 => k_asm); (case k2 => k_asm); (case k3 => k_asm); (case k4 => k_asm); (case k5 => k_asm); (case kK => exact rfl); (case kd => ktr_room); (case ku => ktr_units))
            rintro r9 tl9 h9 tk9 F8 N8 - ⟨rfl, y, t, ss', rfl, hp, hs, hy⟩
            repeat' (first | (k_unfold; (try dsimp only)) | ((with_reducible show wpAny _ _ _ _ _ _); walk1) | ((with_reducible show LeaveK _ _ _ _ _ _ _); walk1))
            rename News _ _ _ _ => N7
            rename Fr _ _ _ _ => F7
            exact ret0 hret F7 N7 (fun p hp => by first | exact hp | exact List.mem_append_left _ hp) ⟨rfl, y, t, ss', rfl, hp, hs, hy⟩)
theorem lawhigh (w : World) (l : Addr) (o : Obj) (vs : List Value) (n : Nat) (ss : List Str) (news : List (Addr × Obj)) (hm : (l, o) ∈ news) (hc : o.cls = .type "list" ∨ o.cls = .type "tuple") (hdt : o.data = .seq vs.toArray n) (hS : StrsAre vs ss) (h0 : 0 < ss.length) (h64 : ss.length < 64) :
    Ct 10 80 w 69 [.ref l] news (fun tl r => tl = [] ∧ ∃ (y : Str) (t : Tok) (ss' : List Str), r = .str y t ∧ ss'.Perm ss ∧ sortedS ss' = true ∧ ss'[ss.length / 2]? = some y) := by
  unfold Ct
  k_with_none
  w_strict (k_fill; intro mean mg mb dp un gd cn cs a ccd cl outer A₀ base h₀ L m s Q E B F X N T hk hd hu hret; refine wpAny_call ?_; k_dflt ktr_enter
            rename Fr _ _ _ _ => F9
            replace F9 := fr_map (fun y => List.lookup y [(Str.ofString "rows", Value.ref l)]) F9 (by with_unfolding_all rfl)
            repeat (first | (k_unfold; (try dsimp only)) | ((fail_if_success (with_reducible show wpAny _ _ (call (Value.ref _) _) _ _ _)); walk1))
            k_dflt (refine' Ct.use (medhigh w l o vs n ss news hm hc hdt hS h0 h64) ?k1 ?k2 ?k3 ?k4 ?k5 ?kK ?kd ?ku ?_; (case k1 => k_asm); (case k2 => k_asm); (case k3 => k_asm); (case k4 => k_asm); (case k5 => k_asm); (case kK => exact rfl); (case kd => ktr_room); (case ku => ktr_units))
            rintro r9 tl9 h9 tk9 F8 N8 - ⟨rfl, y, t, ss', rfl, hp, hs, hy⟩
            repeat' (first | (k_unfold; (try dsimp only)) | ((with_reducible show wpAny _ _ _ _ _ _); walk1) | ((with_reducible show LeaveK _ _ _ _ _ _ _); walk1))
            rename News _ _ _ _ => N7
            rename Fr _ _ _ _ => F7
            exact ret0 hret F7 N7 (fun p hp => by first | exact hp | exact List.mem_append_left _ hp) ⟨rfl, y, t, ss', rfl, hp, hs, hy⟩)

end
section
open PySem.Calls
section
variable {prog : Program} {w : World} {A₀ A : Around} {s : Shared} {base h₀ : Heap} {L a : Addr} {m : Str → Option Value} {cn : Str} {cs : Scope} {ccd : Value} {cl : List (Str × Addr)} {news : List (Addr × Obj)} {K : Frag} {p : Program} {loose : List Str} {mean : ExcName → Option Value} {mg mb : Str → Option Value}
  {R : Result → Shared → Prop} {name qual : Str} {params : Arguments} {body : List Stmt} {scope : Scope} {dV kV doc pm cdv ct oc : Value} {an od : Option Addr} {osl : Array (Option Value)} {f : Addr} {args : Args} {binds : List (Str × Value)}
/-- a call from the law's own frame of a def that may catch -/
theorem code_defSX (B : Below A₀ base [] h₀) (F : Fr h₀ L s.heap m) (X₀ : K.In h₀) (N : News h₀ L s.heap news) (T : Top p loose mean mg mb h₀) (hA : A.frames = some [envX cn cs L a ccd cl])
    (ho : K.lookup f = some ⟨oc, od, .func (fnOf name qual params body scope dV kV doc pm an cdv ct), osl⟩) (hcd : codeIn K cdv qual = true) (hroom : A.depth < recursionLimit)
    (hbind : BindsTo s (fnOf name qual params body scope dV kV doc pm an cdv ct) args binds) (hloc : ∀ y ∈ binds, scope.names.lookup y.1 = some .local)
    (h : ∀ g L' h₁, Fr h₀ L g m → Fr g L' h₁ (fun y => binds.reverse.lookup y) → News g L' h₁ news → Below A base [envX cn cs L a ccd cl] g → K.In g → Top p loose mean mg mb g → KtsDicts [L] g →
      wpAny (model prog w) (A.deeper (envOf qual scope L' f cdv)) (execs body (envOf qual scope L' f cdv))
        (fun fl s' => LeaveS0 [L] h₀ L m g R (match fl with | .ret v => v | _ => .none) s')
        (fun e s' => wpAny (model prog w) (A.deeper (envOf qual scope L' f cdv)) (leaving (envOf qual scope L' f cdv) e) (fun _ s'' => R (.error e) s'') (fun e' s'' => R (.error e') s'') s')
        { s with heap := h₁, toks := s.toks + binds.length })
    (hck : cs.kind = .function) (hco : scope.isCoroutine = false) (hgen : scope.isGenerator = false) (hk : scope.kind = .function)
    (hcell : ∀ x ∈ scope.names, x.2 ≠ .cell) : codeAny (model prog w) A (.call (.ref f) args) R s := by
  have X := X₀.keeps F.keep
  refine codeAny_call_def (fd := fnOf name qual params body scope dV kV doc pm an cdv ct) (body := body) (binds := binds) hroom (X _ _ ho) rfl (T.nolimit.keeps F.keep) (codeRec_of X hcd) rfl hbind hcell hloc (fun h₁ hns hk₁ => ?_) hco hgen hk
  obtain ⟨FG, BG, st, -⟩ := groundX (R := R) B F N hA rfl hck
  obtain ⟨oL, es, ep, hLg, hLd, hLk, hLf⟩ := FG.ns
  refine wpAny_mono (h _ s.heap.objs.size h₁ FG ⟨hns, fun b o e => hk₁ b o (of_hideAll _ e), Nat.le_of_eq (hideAll_size _ _)⟩
    (fun p hp => ⟨hk₁ _ _ (N p hp).1, Nat.ne_of_lt (Heap.lt_size (N p hp).1), hideAll_none _ (List.mem_map_of_mem hp)⟩) BG (X₀.keeps st) (T.keeps st) (fun b hb => by
      rw [List.mem_singleton.mp hb]
      exact ⟨oL, es, ep, hLg, hLd⟩)) (fun fl s' hl => ?_) fun _ _ y => y
  obtain ⟨g', L', m', news', T', F', N', k⟩ := hl
  have nL₀ : h₀.get? L = none := kts_self F
  obtain ⟨sl, hs⟩ := T'.up hLg
  refine k ⟨⟨_, es, ep, F'.keep _ _ hs, hLd, hLk, hLf⟩, fun b o e => F'.keep b o (T'.other b o (st b o e) (fun q => by
    rw [List.mem_singleton.mp q, nL₀] at e
    cases e)), F.above⟩ fun p hp => ⟨(N' p hp).1, fun q => ?_, ?_⟩
  · have := (N' p hp).2.2; rw [q, hs] at this; cases this
  · cases q : h₀.get? p.1 with
    | none => rfl
    | some o =>
      obtain ⟨sl', hs'⟩ := T'.up (st _ _ q)
      have := (N' p hp).2.2
      rw [hs'] at this
      cases this
end
/-- a contract of a call from the law's own frame of a def that catches -/
def CtS (kd ku : Nat) (w : World) (f : Addr) (vs : List Value) (news : List (Addr × Obj)) (Out : Value → Prop) : Prop :=
  ∀ (mean : ExcName → Option Value) (mg mb : Str → Option Value) (dp un : Nat) (gd : Option (List Code)) (cn : Str) (cs : Scope) (a : Addr) (ccd : Value) (cl : List (Str × Addr)) (A₀ : Around) (base h₀ : Heap) (L : Addr) (m : Str → Option Value) (s : Shared) (Q E : Value → Shared → Prop),
    Below A₀ base [] h₀ → Fr h₀ L s.heap m → (hd.heap_39 w.params).In h₀ → News h₀ L s.heap news → Top hd.view_39 (looseW hd.view_39 []) mean mg mb h₀ → (hd.heap_39 w.params).In base → Top hd.view_39 (looseW hd.view_39 []) mean mg mb base → cs.kind = .function → dp + kd < recursionLimit → un + ku < cLine →
    (∀ r h' tk', Fr h₀ L h' m → News h₀ L h' news → Out r → Q r { s with heap := h', toks := tk' }) →
    wpAny (model PySem.Challenge.rw_rs0026_01.row.prog w) (ktrTop dp un gd cn cs L a ccd cl []) (call (.ref f) vs) Q E s
theorem CtS.use {kd ku : Nat} {w : World} {f : Addr} {vs : List Value} {news : List (Addr × Obj)} {Out : Value → Prop} {mean : ExcName → Option Value} {mg mb : Str → Option Value} {dp un : Nat} {gd : Option (List Code)} {cn : Str} {cs : Scope} {a : Addr} {ccd : Value} {cl : List (Str × Addr)} {A₀ : Around} {base h₀ : Heap} {L : Addr} {m : Str → Option Value} {s : Shared} {Q E : Value → Shared → Prop}
    (C : CtS kd ku w f vs news Out) (B : Below A₀ base [] h₀) (F : Fr h₀ L s.heap m) (X : (hd.heap_39 w.params).In h₀) (N : News h₀ L s.heap news) (T : Top hd.view_39 (looseW hd.view_39 []) mean mg mb h₀) (XB : (hd.heap_39 w.params).In base) (TB : Top hd.view_39 (looseW hd.view_39 []) mean mg mb base) (hk : cs.kind = .function) (hd : dp + kd < recursionLimit) (hu : un + ku < cLine)
    (ret : ∀ r h' tk', Fr h₀ L h' m → News h₀ L h' news → Out r → Q r { s with heap := h', toks := tk' }) :
    wpAny (model PySem.Challenge.rw_rs0026_01.row.prog w) (ktrTop dp un gd cn cs L a ccd cl []) (call (.ref f) vs) Q E s := C _ _ _ _ _ _ _ _ _ _ _ _ _ _ _ _ _ _ _ B F X N T XB TB hk hd hu ret
end
section
theorem lownil (w : World) (l : Addr) (news : List (Addr × Obj)) (hm : (l, listOf #[] 0) ∈ news) :
    CtS 10 80 w 62 [.ref l] news (fun r => ∃ (t : Tok), r = .str (Str.ofString "refused") t) := by
  unfold CtS
  k_with_none
  w_strict (k_fill; intro mean mg mb dp un gd cn cs a ccd cl A₀ base h₀ L m s Q E B F X N T XB TB hk hd hu hret; refine wpAny_call ?_
            k_dflt (refine' code_defSX ?k1 ?k2 ?k3 ?k4 ?k5 ?kA ?k6 ?k7 ?k8 ?k9 ?kB ?_ ?kK ?c2 ?c3 ?c4 ?c5; (case kA => exact rfl); (case kK => assumption); (case k1 => k_asm); (case k2 => k_asm); (case k3 => k_asm); (case k4 => k_asm); (case k5 => k_asm); (case k6 => k_is); (case k7 => k_is); (case k8 => ktr_room); (case k9 => exact BindsTo.of_eq rfl); (case c5 => decide); (case kB => exact locs rfl); (case c2 => exact rfl); (case c3 => exact rfl); (case c4 => exact rfl); k_whole; intro g2 L2 h2 FG2 F2 N2 B2 X2 T2 D2; (try dsimp only); (try k_fold))
            replace F2 := fr_map (fun y => List.lookup y [(Str.ofString "rows", Value.ref l)]) F2 (by with_unfolding_all rfl)
            repeat (first | (k_unfold; (try dsimp only)) | ((fail_if_success (with_reducible show wpAny _ _ (call (Value.ref _) _) _ _ _)); walk1))
            refine wpAny_call ?_
            k_dflt (refine' code_def ?k1 ?k2 ?k3 ?k4 ?k5 ?kA ?kF ?kK ?k6 ?k7 ?k8 ?k9 ?kB ?_ ?c2 ?c3 ?c4 ?c5; (case kA => exact rfl); (case kF => exact rfl); (case kK => exact rfl); (case k1 => k_asm); (case k2 => k_asm); (case k3 => k_asm); (case k4 => k_asm); (case k5 => k_asm); (case k6 => k_is); (case k7 => k_is); (case k8 => ktr_room); (case k9 => exact BindsTo.of_eq rfl); (case c5 => decide); (case kB => exact locs rfl); (case c2 => exact rfl); (case c3 => exact rfl); (case c4 => exact rfl); k_whole; intro g1 L1 h1 FG1 F1 N1 B1 X1 T1; (try dsimp only); (try k_fold))
            replace F1 := fr_map (fun y => List.lookup y [(Str.ofString "data", Value.ref l)]) F1 (by with_unfolding_all rfl)
            repeat (first | (k_unfold; (try dsimp only)) | ((fail_if_success (with_reducible show wpAny _ _ (call (Value.builtin "sorted") _) _ _ _)); walk1))
            rename News _ _ _ _ => N8
            rename Fr _ _ _ _ => F8
            with_unfolding_all refine' sorted_N_seq (vs := []) F8 N8 ⟨listOf #[] 0, (N8 _ hm).1, .inl rfl, 0, rfl⟩ .nil (by decide) ?_
            intro D h1 vs' ss' e F7 N7 lt9 hS' hp' hs'
            obtain rfl : ss' = [] := List.Perm.eq_nil hp'
            cases hS'
            repeat' (first | (k_unfold; (try dsimp only)) | ((with_reducible show wpAny _ _ _ _ _ _); walk1) | ((with_reducible show ite _ _ _); walk1))
            refine ⟨(by rw [sizeLine_eq]; show 1 ≤ _; omega), Fr.keep (by assumption), ?_⟩
            intro h3 e3 hx3
            k_unfold
            try dsimp only
            (refine' leave_raiseS ?k1 ?k0 ?k2 ?k3 ?_; (case k0 => exact hx3); (case k2 => assumption); (case k1 => assumption); (case k3 => k_asm); k_whole; intro h4 t4 S4 R4 U4; (try dsimp only at S4 R4 U4 ⊢))
            k_dflt (refine' caught_SO0 ?R ?F ?K ?U ?XB ?TB ?D ?T0 ?ex ?q ?_; (case R => exact S4); (case F => assumption); (case K => assumption); (case U => assumption); (case XB => assumption); (case TB => assumption); (case D => assumption); (case T0 => first | assumption | exact KtsTurn.refl); (case ex => k_is); (case q => kts_isx); k_whole)
            intro h5 g5 n5 T5 F5 N5 G5 NN5 K5 X5 P5 D5
            repeat' (first | (k_unfold; (try dsimp only)) | ((with_reducible show wpAny _ _ _ _ _ _); walk1) | ((with_reducible show ite _ _ _); walk1))
            refine leaveS0_ (by assumption) NN5 (by assumption) ?_
            intro kF kN
            exact hret _ _ _ kF (fun p hp => kN p (by first | exact hp | exact .tail _ hp)) ⟨_, rfl⟩)
theorem highnil (w : World) (l : Addr) (news : List (Addr × Obj)) (hm : (l, listOf #[] 0) ∈ news) :
    CtS 10 80 w 69 [.ref l] news (fun r => ∃ (t : Tok), r = .str (Str.ofString "refused") t) := by
  unfold CtS
  k_with_none
  w_strict (k_fill; intro mean mg mb dp un gd cn cs a ccd cl A₀ base h₀ L m s Q E B F X N T XB TB hk hd hu hret; refine wpAny_call ?_
            k_dflt (refine' code_defSX ?k1 ?k2 ?k3 ?k4 ?k5 ?kA ?k6 ?k7 ?k8 ?k9 ?kB ?_ ?kK ?c2 ?c3 ?c4 ?c5; (case kA => exact rfl); (case kK => assumption); (case k1 => k_asm); (case k2 => k_asm); (case k3 => k_asm); (case k4 => k_asm); (case k5 => k_asm); (case k6 => k_is); (case k7 => k_is); (case k8 => ktr_room); (case k9 => exact BindsTo.of_eq rfl); (case c5 => decide); (case kB => exact locs rfl); (case c2 => exact rfl); (case c3 => exact rfl); (case c4 => exact rfl); k_whole; intro g2 L2 h2 FG2 F2 N2 B2 X2 T2 D2; (try dsimp only); (try k_fold))
            replace F2 := fr_map (fun y => List.lookup y [(Str.ofString "rows", Value.ref l)]) F2 (by with_unfolding_all rfl)
            repeat (first | (k_unfold; (try dsimp only)) | ((fail_if_success (with_reducible show wpAny _ _ (call (Value.ref _) _) _ _ _)); walk1))
            refine wpAny_call ?_
            k_dflt (refine' code_def ?k1 ?k2 ?k3 ?k4 ?k5 ?kA ?kF ?kK ?k6 ?k7 ?k8 ?k9 ?kB ?_ ?c2 ?c3 ?c4 ?c5; (case kA => exact rfl); (case kF => exact rfl); (case kK => exact rfl); (case k1 => k_asm); (case k2 => k_asm); (case k3 => k_asm); (case k4 => k_asm); (case k5 => k_asm); (case k6 => k_is); (case k7 => k_is); (case k8 => ktr_room); (case k9 => exact BindsTo.of_eq rfl); (case c5 => decide); (case kB => exact locs rfl); (case c2 => exact rfl); (case c3 => exact rfl); (case c4 => exact rfl); k_whole; intro g1 L1 h1 FG1 F1 N1 B1 X1 T1; (try dsimp only); (try k_fold))
            replace F1 := fr_map (fun y => List.lookup y [(Str.ofString "data", Value.ref l)]) F1 (by with_unfolding_all rfl)
            repeat (first | (k_unfold; (try dsimp only)) | ((fail_if_success (with_reducible show wpAny _ _ (call (Value.builtin "sorted") _) _ _ _)); walk1))
            rename News _ _ _ _ => N8
            rename Fr _ _ _ _ => F8
            with_unfolding_all refine' sorted_N_seq (vs := []) F8 N8 ⟨listOf #[] 0, (N8 _ hm).1, .inl rfl, 0, rfl⟩ .nil (by decide) ?_
            intro D h1 vs' ss' e F7 N7 lt9 hS' hp' hs'
            obtain rfl : ss' = [] := List.Perm.eq_nil hp'
            cases hS'
            repeat' (first | (k_unfold; (try dsimp only)) | ((with_reducible show wpAny _ _ _ _ _ _); walk1) | ((with_reducible show ite _ _ _); walk1))
            refine ⟨(by rw [sizeLine_eq]; show 1 ≤ _; omega), Fr.keep (by assumption), ?_⟩
            intro h3 e3 hx3
            k_unfold
            try dsimp only
            (refine' leave_raiseS ?k1 ?k0 ?k2 ?k3 ?_; (case k0 => exact hx3); (case k2 => assumption); (case k1 => assumption); (case k3 => k_asm); k_whole; intro h4 t4 S4 R4 U4; (try dsimp only at S4 R4 U4 ⊢))
            k_dflt (refine' caught_SO0 ?R ?F ?K ?U ?XB ?TB ?D ?T0 ?ex ?q ?_; (case R => exact S4); (case F => assumption); (case K => assumption); (case U => assumption); (case XB => assumption); (case TB => assumption); (case D => assumption); (case T0 => first | assumption | exact KtsTurn.refl); (case ex => k_is); (case q => kts_isx); k_whole)
            intro h5 g5 n5 T5 F5 N5 G5 NN5 K5 X5 P5 D5
            repeat' (first | (k_unfold; (try dsimp only)) | ((with_reducible show wpAny _ _ _ _ _ _); walk1) | ((with_reducible show ite _ _ _); walk1))
            refine leaveS0_ (by assumption) NN5 (by assumption) ?_
            intro kF kN
            exact hret _ _ _ kF (fun p hp => kN p (by first | exact hp | exact .tail _ hp)) ⟨_, rfl⟩)
end
section
def bits (n p : Nat) : List Bool := (List.range n).map fun i => decide (n - p ≤ i * p % n)
def lett (lo hi : Nat) (b : Bool) : Nat := if b then hi else lo
def lineC (n p lo hi : Nat) : List Nat := (bits n p).map (lett lo hi)
theorem bits_length (n p : Nat) : (bits n p).length = n := by simp [bits]
theorem lineC_length (n p lo hi : Nat) : (lineC n p lo hi).length = n := by simp [lineC, bits]

/-! the tables do not see the letters -/
section
variable {α β : Type} [DecidableEq α] [DecidableEq β] {f : α → β}
theorem map_at (hf : ∀ a b, f a = f b → a = b) (l : List α) (i k : Nat) : ((l.map f)[i]? = (l.map f)[k]?) ↔ (l[i]? = l[k]?) := by
  rw [List.getElem?_map, List.getElem?_map]
  constructor
  · intro h
    cases h1 : l[i]? <;> cases h2 : l[k]? <;> simp_all
    exact hf _ _ h
  · intro h; rw [h]
theorem inner_map (hf : ∀ a b, f a = f b → a = b) (l : List α) (ts : List Int) (i : Nat) : ∀ fu k, inner (l.map f) ts i fu k = inner l ts i fu k
  | 0, _ => rfl
  | fu + 1, k => by
    simp only [inner, map_at hf]
    rw [inner_map hf l ts i fu]
theorem genT_map (hf : ∀ a b, f a = f b → a = b) (l : List α) : ∀ j, genT (l.map f) j = genT l j
  | 0 => by simp [genT]
  | j + 1 => by simp only [genT, genStep]; rw [genT_map hf l j, inner_map hf]
end
theorem lett_inj {lo hi : Nat} (h : lo < hi) : ∀ a b, lett lo hi a = lett lo hi b → a = b := by
  intro a b; cases a <;> cases b <;> simp [lett] <;> omega

def T1 (n p : Nat) : List Int := genT (bits n p) (n - 1)
def T2 (n p : Nat) : List Int := genT ((bits n p).drop 1) (n - 1 - 1)
theorem tab1 {n p lo hi : Nat} (h : lo < hi) : genT (lineC n p lo hi) (n - 1) = T1 n p := genT_map (lett_inj h) _ _
theorem tab2 {n p lo hi : Nat} (h : lo < hi) : genT ((lineC n p lo hi).drop 1) (n - 1 - 1) = T2 n p := by
  unfold lineC T2; rw [← List.map_drop]; exact genT_map (lett_inj h) _ _

def rootN (n p : Nat) : Nat := n - ((T1 n p).getD (n - 1) 0).toNat
def backZ (n p : Nat) : Int := (rootN n p : Int) - 1 - (T2 n p).getD (rootN n p - 2) 0
def ordZ (n p : Nat) : List Int := (List.range (rootN n p)).flatMap fun k : Nat => (List.range (n / rootN n p)).map fun a : Nat => (-(k : Int) * backZ n p).fmod (rootN n p : Int) + (a : Int) * (rootN n p : Int)
def rot {α : Type} (l : List α) (i : Nat) : List α := l.drop i ++ l.take i
def lexB : List Bool → List Bool → Bool
  | [], [] => false
  | [], _ :: _ => true
  | _ :: _, [] => false
  | a :: r, b :: t => (!a && b) || (a == b && lexB r t)
def upB (l : List Bool) : List Int → Bool
  | [] => true
  | i :: r => r.all (fun j => !lexB (rot l j.toNat) (rot l i.toNat)) && upB l r
def okB (n p : Nat) : Bool :=
  decide ((ltW (n : Int) 10 (p : Int) ((n : Int) - (p : Int)) 1 1 [] []).1.take n = T1 n p) &&
  decide (((ltW (n : Int) 10 (p : Int) ((n : Int) - (p : Int)) 1 1 [] []).2.take n).drop 1 = T2 n p) &&
  decide ((T1 n p).getD (n - 1) 0 = (n : Int) - (rootN n p : Int)) && decide (2 ≤ rootN n p) && decide (rootN n p ≤ n) &&
  decide ((ordZ n p).length = n) && (ordZ n p).all (fun i => decide (0 ≤ i) && decide (i < (n : Int))) && upB (bits n p) (ordZ n p)
theorem ok_all : ∀ n, n < 10 → ∀ p, p < n → 2 ≤ n → 1 ≤ p → okB n p = true := by decide +kernel
theorem ok_at {n p : Nat} (hn2 : 2 ≤ n) (hn9 : n ≤ 9) (hp1 : 1 ≤ p) (hpn : p + 1 ≤ n) : okB n p = true := ok_all n (by omega) p (by omega) hn2 hp1
section
variable {n p : Nat} (hn2 : 2 ≤ n) (hn9 : n ≤ 9) (hp1 : 1 ≤ p) (hpn : p + 1 ≤ n)
include hn2 hn9 hp1 hpn
theorem pl_all : (ltW (n : Int) 10 (p : Int) ((n : Int) - (p : Int)) 1 1 [] []).1.take n = T1 n p ∧ ((ltW (n : Int) 10 (p : Int) ((n : Int) - (p : Int)) 1 1 [] []).2.take n).drop 1 = T2 n p ∧
    (T1 n p).getD (n - 1) 0 = (n : Int) - (rootN n p : Int) ∧ 2 ≤ rootN n p ∧ rootN n p ≤ n ∧ (ordZ n p).length = n ∧ (∀ i ∈ ordZ n p, 0 ≤ i ∧ i < (n : Int)) ∧ upB (bits n p) (ordZ n p) = true := by
  have h := ok_at hn2 hn9 hp1 hpn
  simp only [okB, Bool.and_eq_true, decide_eq_true_eq, List.all_eq_true] at h
  obtain ⟨⟨⟨⟨⟨⟨⟨h1, h2⟩, h3⟩, h4⟩, h5⟩, h6⟩, h7⟩, h8⟩ := h
  exact ⟨h1, h2, h3, h4, h5, h6, h7, h8⟩
end
theorem pl_tab {n p : Nat} (hn2 : 2 ≤ n) (hn9 : n ≤ 9) (hp1 : 1 ≤ p) (hpn : p + 1 ≤ n) : ∃ R : List Int × List Int, R = ltW (n : Int) 10 (p : Int) ((n : Int) - (p : Int)) 1 1 [] [] ∧ R.1.take n = T1 n p ∧ (R.2.take n).drop 1 = T2 n p :=
  ⟨_, rfl, (pl_all hn2 hn9 hp1 hpn).1, (pl_all hn2 hn9 hp1 hpn).2.1⟩
/-- what the walk of the order asks -/
theorem pl_ord {n p : Nat} (hn2 : 2 ≤ n) (hn9 : n ≤ 9) (hp1 : 1 ≤ p) (hpn : p + 1 ≤ n) : ∃ (r : Nat) (bz : Int), (T1 n p).getD (n - 1) 0 = (n : Int) - (r : Int) ∧ 2 ≤ r ∧ r ≤ n ∧ (r : Int) - 1 - (T2 n p).getD (r - 2) 0 = bz ∧
    ordZ n p = (List.range r).flatMap (fun k : Nat => (List.range (n / r)).map fun a : Nat => (-(k : Int) * bz).fmod (r : Int) + (a : Int) * (r : Int)) :=
  ⟨rootN n p, backZ n p, (pl_all hn2 hn9 hp1 hpn).2.2.1, (pl_all hn2 hn9 hp1 hpn).2.2.2.1, (pl_all hn2 hn9 hp1 hpn).2.2.2.2.1, rfl, rfl⟩
theorem T1_length (n p : Nat) : (T1 n p).length = n := by rw [T1, genT_length, bits_length]
theorem T2_length (n p : Nat) : (T2 n p).length = n - 1 := by rw [T2, genT_length, List.length_drop, bits_length]

/-! the order of the turns -/
theorem ltCps_map {lo hi : Nat} (h : lo < hi) : ∀ l l' : List Bool, Spec.ltCps (l.map (lett lo hi)) (l'.map (lett lo hi)) = lexB l l'
  | [], [] => rfl
  | [], _ :: _ => rfl
  | _ :: _, [] => rfl
  | a :: r, b :: t => by
    show (decide (lett lo hi a < lett lo hi b) || (lett lo hi a == lett lo hi b && Spec.ltCps (r.map (lett lo hi)) (t.map (lett lo hi)))) = _
    rw [ltCps_map h r t]
    cases a <;> cases b <;> simp [lett, lexB, h] <;> omega
theorem rot_map {α β : Type} (f : α → β) (l : List α) (i : Nat) : rot (l.map f) i = (rot l i).map f := by
  simp [rot, List.map_drop, List.map_take]
/-- texts in their order -/
def leS (a b : Str) : Prop := Spec.ltCps b.cps.toList a.cps.toList = false
theorem up_pairwise {l : List Bool} : ∀ {o : List Int}, upB l o = true → o.Pairwise fun i j => lexB (rot l j.toNat) (rot l i.toNat) = false
  | [], _ => .nil
  | i :: r, h => by
    simp only [upB, Bool.and_eq_true, List.all_eq_true, Bool.not_eq_true'] at h
    exact .cons (fun j hj => h.1 j hj) (up_pairwise h.2)
theorem ltS_trans {a b c : List Nat} (h1 : Spec.ltCps b a = false) (h2 : Spec.ltCps c b = false) : Spec.ltCps c a = false := by
  rw [ltCps_eq, decide_eq_false_iff_not] at *
  exact List.le_trans h1 h2
theorem leS_of_sortedS : ∀ {ss : List Str}, sortedS ss = true → ss.Pairwise leS
  | [], _ => .nil
  | x :: r, h => by
    have key : ∀ (r : List Str) (x : Str), risingS x r = true → (∀ y ∈ r, leS x y) ∧ r.Pairwise leS := by
      intro r
      induction r with
      | nil => intro x _; exact ⟨fun y hy => absurd hy List.not_mem_nil, List.Pairwise.nil⟩
      | cons y r ih =>
        intro x h
        simp only [risingS, Bool.and_eq_true, Bool.not_eq_true'] at h
        obtain ⟨k1, k2⟩ := ih y h.2
        refine ⟨fun z hz => ?_, .cons k1 k2⟩
        rcases List.mem_cons.mp hz with rfl | hz
        · exact h.1
        · exact ltS_trans h.1 (k1 z hz)
    obtain ⟨k1, k2⟩ := key r x h
    exact .cons k1 k2
theorem leS_antisymm {a b : Str} (h1 : leS a b) (h2 : leS b a) : a = b := by
  unfold leS at h1 h2
  rw [ltCps_eq, decide_eq_false_iff_not] at h1 h2
  have e : a.cps.toList = b.cps.toList := List.le_antisymm h1 h2
  cases a; cases b
  simp only [Array.toList_inj] at e
  rw [e]
theorem sorted_uniq {a b : List Str} (ha : sortedS a = true) (hb : b.Pairwise leS) (hp : a.Perm b) : a = b :=
  List.Perm.eq_of_pairwise (fun _ _ _ _ => leS_antisymm) (leS_of_sortedS ha) hb hp
/-- what the medians see: the stretch of the order, whatever its own order -/
theorem stretch {n p lo hi : Nat} (hn2 : 2 ≤ n) (hn9 : n ≤ 9) (hp1 : 1 ≤ p) (hpn : p + 1 ≤ n) (h : lo < hi) {tn : Int → Str} (ht : ∀ i, 0 ≤ i → i < (n : Int) → (tn i).cps.toList = rot (lineC n p lo hi) i.toNat)
    {o : List Int} (ho : o.Sublist (ordZ n p)) {q : List Int} (hq : q.Perm o) {ss : List Str} (hp : ss.Perm (q.map tn)) (hs : sortedS ss = true) : ss = o.map tn := by
  obtain ⟨-, -, -, -, -, -, h7, h8⟩ := pl_all hn2 hn9 hp1 hpn
  refine sorted_uniq hs ?_ (hp.trans (hq.map tn))
  rw [List.pairwise_map]
  have hu := (up_pairwise h8).sublist ho
  refine hu.imp_of_mem fun {i j} hi' hj' hij => ?_
  have b1 := h7 i (ho.subset hi')
  have b2 := h7 j (ho.subset hj')
  unfold leS
  rw [ht i b1.1 b1.2, ht j b2.1 b2.2]
  unfold lineC
  rw [rot_map, rot_map, ltCps_map h]
  exact hij
end
section
open PySem.Spec
section
variable {prog : Program} {w : World} {A : Around} {E : Value → Shared → Prop} {s : Shared} {h₀ : Heap} {L : Addr} {news : List (Addr × Obj)} {Q : Value → Shared → Prop}
theorem reads_pair {a a1 a2 : Addr} {vs1 vs2 : List Value} {e e1 e2 : Nat} {x y : List Int} (N : News h₀ L s.heap news) (ha : (a, listOf #[.ref a1, .ref a2] e) ∈ news) (h1 : (a1, listOf vs1.toArray e1) ∈ news) (h2 : (a2, listOf vs2.toArray e2) ∈ news)
    (i1 : IntsAre vs1 x) (i2 : IntsAre vs2 y) : ∃ as, Reads s.heap (.ref a) (.list [.list (x.map .int), .list (y.map .int)]) as :=
  ⟨_, reads_list_at (N _ ha).1 rfl rfl (ReadsAll.cons (reads_of_ints ⟨_, (N _ h1).1, rfl, _, rfl⟩ i1) (ReadsAll.cons (reads_of_ints ⟨_, (N _ h2).1, rfl, _, rfl⟩ i2) ReadsAll.nil))⟩
theorem pair_shaped (x y : List Int) : SeqAt.shaped (.list [.list (x.map .int), .list (y.map .int)]) = true := by
  simp [SeqAt.shaped, PyData.canLay0, PyData.canLayAll0, PyData.depth, PyData.depthAll, ke_canLayAll0, ke_depthAll]
theorem ne_pair {a a1 a2 b b1 b2 : Addr} {vs1 vs2 us1 us2 : List Value} {e e1 e2 f f1 f2 : Nat} {x y : List Int} (N : News h₀ L s.heap news)
    (ha : (a, listOf #[.ref a1, .ref a2] e) ∈ news) (h1 : (a1, listOf vs1.toArray e1) ∈ news) (h2 : (a2, listOf vs2.toArray e2) ∈ news) (i1 : IntsAre vs1 x) (i2 : IntsAre vs2 y)
    (hb : (b, listOf #[.ref b1, .ref b2] f) ∈ news) (k1 : (b1, listOf us1.toArray f1) ∈ news) (k2 : (b2, listOf us2.toArray f2) ∈ news) (j1 : IntsAre us1 x) (j2 : IntsAre us2 y)
    (hu : A.units + 64 < cLine) (h : Q (.bool false) s) : wpAny (model prog w) A (compareOp .NotEq (.ref a) (.ref b)) Q E s := by
  obtain ⟨as, ra⟩ := reads_pair N ha h1 h2 i1 i2
  obtain ⟨bs, rb⟩ := reads_pair N hb k1 k2 j1 j2
  refine ne_dataH ra rb (pair_shaped x y) (pair_shaped x y) hu ?_
  have e : PyData.eqv (.list [.list (x.map .int), .list (y.map .int)]) (.list [.list (x.map .int), .list (y.map .int)]) = true := by
    simp only [PyData.eqv, PyData.eqvAll, ked_eqvAll, decide_true, Bool.and_true]
  rw [e]
  exact h
end
end
section
section
variable {prog : Program} {w : World} {A : Around} {E : Value → Shared → Prop} {s : Shared} {h₀ : Heap} {L : Addr} {news : List (Addr × Obj)} {value slice : PySem.Expr} {D : Addr} {vs : List Value} {ns : List Int} {e : Nat} {k : Int} {u : Tok} {Q : Value → Shared → Prop}
theorem item_ints (N : News h₀ L s.heap news) (hm : (D, listOf vs.toArray e) ∈ news) (hI : IntsAre vs ns) (h0 : 0 ≤ k) (h1 : k < (ns.length : Int)) (h64 : ns.length < 64) (h : ∀ t, Q (.int (ns.getD k.toNat 0) t) s)
    (hs : subscripted slice false (.ref D) (.int k u) = operate [.ref D, .int k u] (getItem (.ref D) (.int k u)) := by with_unfolding_all rfl) :
    wpAny (model prog w) A (subscriptTail value slice (.ref D) (.int k u)) Q E s := by
  have hlt : k.toNat < ns.length := by omega
  obtain ⟨t, ht⟩ := hI.get k.toNat (ns.getD k.toNat 0) (by simp [List.getD_eq_getElem?_getD, hlt])
  exact item_litK ⟨_, (N _ hm).1, rfl, e, rfl⟩ h0 (by omega) ht (h t) hs
theorem item_last {v : Int} (N : News h₀ L s.heap news) (hm : (D, listOf vs.toArray e) ∈ news) (hI : IntsAre vs ns) (h1 : 0 < ns.length) (hv : ns.getD (ns.length - 1) 0 = v) (hk : k = -1) (h : ∀ t, Q (.int v t) s)
    (hs : subscripted slice false (.ref D) (.int k u) = operate [.ref D, .int k u] (getItem (.ref D) (.int k u)) := by with_unfolding_all rfl) :
    wpAny (model prog w) A (subscriptTail value slice (.ref D) (.int k u)) Q E s := by
  subst hv hk
  have hl := hI.length
  have hh : ns.length - 1 < ns.length := by omega
  obtain ⟨t, ht⟩ := hI.get (ns.length - 1) (ns.getD (ns.length - 1) 0) (by rw [List.getD_eq_getElem?_getD, List.getElem?_eq_getElem hh]; rfl)
  have hL : s.heap.IsList D vs.toArray := ⟨_, (N _ hm).1, rfl, e, rfl⟩
  refine tail_any hL.typeIs slot_list_getitem.lookup (wpAny_getItem_list_neg hL (by omega) (by rw [List.size_toArray]; omega) (by omega) ?_ (h t)) hs
  have e1 : ((-1 : Int) + ((vs.toArray.size : Nat) : Int)).toNat = ns.length - 1 := by simp [hl]; omega
  rw [e1]
  simpa using ht
theorem sub_to {x y z : Int} {t u : Tok} (e : x - y = z) (h : Q (.int z s.toks) { s with toks := s.toks + 1 }) : wpAny (model prog w) A (binaryOp .Sub (.int x t) (.int y u)) Q E s := by
  subst e; exact sub_int h
end
end
section
abbrev lc2 (elt : PySem.Expr) (x1 x2 : Str) (px1 px2 : Pos) (iter1 iter2 : PySem.Expr) (scope : Scope) (pos : Pos) : PySem.Expr := .ListComp elt [⟨.Name x1 px1, iter1, [], 0⟩, ⟨.Name x2 px2, iter2, [], 0⟩] scope pos
section
variable {prog : Program} {w : World} {A : Around} {E : Value → Shared → Prop} {R : Result → Shared → Prop} {s : Shared} {elt iter1 iter2 : PySem.Expr} {x1 x2 : Str} {px1 px2 pos : Pos} {scope : Scope} {it acc : Value} {env : Env}
theorem turn1 : compTurn (lc2 elt x1 x2 px1 px2 iter1 iter2 scope pos) 1 it acc env = (standAt iter2.pos >>= fun _ => pyNext it >>= fun r => match r with
      | none => pure (.done .next)
      | some v => letOwnedTupleGo (.Name x2 px2) it v >>= fun _ => assign (.Name x2 px2) env v >>= fun _ =>
        (eval elt env >>= fun x => call (.builtin "list.append") [acc, x] >>= fun _ => pure ()) >>= fun _ =>
          again (.compLoop (lc2 elt x1 x2 px1 px2 iter1 iter2 scope pos) 1 it acc env)) := by rfl
theorem turn0 : compTurn (lc2 elt x1 x2 px1 px2 iter1 iter2 scope pos) 0 it acc env = (standAt iter1.pos >>= fun _ => pyNext it >>= fun r => match r with
      | none => pure (.done .next)
      | some v => letOwnedTupleGo (.Name x1 px1) it v >>= fun _ => assign (.Name x1 px1) env v >>= fun _ =>
        eval iter2 env >>= fun x => standAt iter2.pos >>= fun _ => foldedSetIterable iter2 env x >>= fun x => holding [x] (pyIter x) >>= fun it2 =>
          runOwn (.compStart (lc2 elt x1 x2 px1 px2 iter1 iter2 scope pos) 1 it2 acc env) env >>= fun _ =>
          again (.compLoop (lc2 elt x1 x2 px1 px2 iter1 iter2 scope pos) 0 it acc env)) := by rfl
theorem loop1 (I : Nat → Shared → Prop)
    (turn : ∀ n s, I n s → wpAny (model prog w) A (pyNext it) (fun r s₁ => match r with
      | none => R (.ok .next) s₁
      | some v => wpAny (model prog w) A (assign (.Name x2 px2) env v) (fun _ s₂ => wpAny (model prog w) A (eval elt env) (fun x s₃ =>
          wpAny (model prog w) A (call (.builtin "list.append") [acc, x]) (fun _ s₄ => ∃ m, m < n ∧ I m s₄) (notedBy (model prog w) A env fun e s' => R (.error e) s') s₃)
          (notedBy (model prog w) A env fun e s' => R (.error e) s') s₂) (notedBy (model prog w) A env fun e s' => R (.error e) s') s₁) (notedBy (model prog w) A env fun e s' => R (.error e) s') s)
    (n : Nat) (h : I n s) : codeAny (model prog w) A (.compLoop (lc2 elt x1 x2 px1 px2 iter1 iter2 scope pos) 1 it acc env) R s := by
  refine codeAny_loop rfl I (fun n s hI => ?_) n h
  show wpAny _ _ ((compTurn (lc2 elt x1 x2 px1 px2 iter1 iter2 scope pos) 1 it acc env).onRaise (fun x => do noteFrame x env; theTreesLotGoes x)) _ _ s
  refine wpAny_noted ?_
  rw [turn1]
  refine wpAny_bind (wpAny_standAt (wpAny_bind (wpAny_mono (turn n s hI) (fun r s₁ h₁ => ?_) fun _ _ h' => h')))
  cases r with
  | none => exact wpAny_pure h₁
  | some v =>
    refine wpAny_bind (wpAny_of_eq rfl ?_)
    exact wpAny_bind (wpAny_mono h₁ (fun _ s₂ h₂ => wpAny_bind (wpAny_bind (wpAny_mono h₂ (fun x s₃ h₃ => wpAny_bind (wpAny_mono h₃
      (fun _ s₄ h₄ => wpAny_pure (wpAny_pure ⟨rfl, h₄⟩)) fun _ _ h' => h')) fun _ _ h' => h'))) fun _ _ h' => h')
theorem loop0 (hf : ∀ x, foldedSetIterable iter2 env x = pure x) (I : Nat → Shared → Prop)
    (turn : ∀ n s, I n s → wpAny (model prog w) A (pyNext it) (fun r s₁ => match r with
      | none => R (.ok .next) s₁
      | some v => wpAny (model prog w) A (assign (.Name x1 px1) env v) (fun _ s₂ => wpAny (model prog w) A (eval iter2 env) (fun x s₃ =>
          wpAny (model prog w) A (pyIter x) (fun it2 s₄ => codeAny (model prog w) A (.compStart (lc2 elt x1 x2 px1 px2 iter1 iter2 scope pos) 1 it2 acc env)
            (fun r s' => match r with | .ok _ => ∃ m, m < n ∧ I m s' | .error _ => False) s₄) (notedBy (model prog w) A env fun e s' => R (.error e) s') s₃)
          (notedBy (model prog w) A env fun e s' => R (.error e) s') s₂) (notedBy (model prog w) A env fun e s' => R (.error e) s') s₁) (notedBy (model prog w) A env fun e s' => R (.error e) s') s)
    (n : Nat) (h : I n s) : codeAny (model prog w) A (.compLoop (lc2 elt x1 x2 px1 px2 iter1 iter2 scope pos) 0 it acc env) R s := by
  refine codeAny_loop rfl I (fun n s hI => ?_) n h
  show wpAny _ _ ((compTurn (lc2 elt x1 x2 px1 px2 iter1 iter2 scope pos) 0 it acc env).onRaise (fun x => do noteFrame x env; theTreesLotGoes x)) _ _ s
  refine wpAny_noted ?_
  rw [turn0]
  refine wpAny_bind (wpAny_standAt (wpAny_bind (wpAny_mono (turn n s hI) (fun r s₁ h₁ => ?_) fun _ _ h' => h')))
  cases r with
  | none => exact wpAny_pure h₁
  | some v =>
    refine wpAny_bind (wpAny_of_eq rfl ?_)
    refine wpAny_bind (wpAny_mono h₁ (fun _ s₂ h₂ => wpAny_bind (wpAny_mono h₂ (fun x s₃ h₃ => wpAny_bind (wpAny_standAt (wpAny_bind (wpAny_of_eq (hf x) (wpAny_bind (wpAny_holding (wpAny_mono h₃ (fun it2 s₄ h₄ => ?_) fun _ _ h' => h'))))))) fun _ _ h' => h')) fun _ _ h' => h')
    refine wpAny_bind (wpAny_runOwn (codeAny_mono h₄ fun r s' hr => ?_))
    cases r with
    | ok f => exact wpAny_pure ⟨rfl, hr⟩
    | error e => exact hr.elim
theorem start1 (h0 : codeAny (model prog w) A (.compLoop (lc2 elt x1 x2 px1 px2 iter1 iter2 scope pos) 1 it acc env) R s)
    (h : wpAny (model prog w) A (pyIter it) (fun it' s' => codeAny (model prog w) A (.compLoop (lc2 elt x1 x2 px1 px2 iter1 iter2 scope pos) 1 it' acc env) R s')
      (notedBy (model prog w) A env fun x s' => R (.error x) s') s) :
    codeAny (model prog w) A (.compStart (lc2 elt x1 x2 px1 px2 iter1 iter2 scope pos) 1 it acc env) R s := by
  refine codeAny_of_tree ?_
  show wpAny _ _ ((compStart (lc2 elt x1 x2 px1 px2 iter1 iter2 scope pos) 1 it acc env).onRaise (fun x => do noteFrame x env; standAt theWindowsPlace)) _ _ s
  refine wpAny_notedAt ?_
  unfold compStart
  show wpAny _ _ (ask >>= _) _ _ s
  refine wpAny_bind (wpAny_askSetting (wpAny_ite ?_))
  split
  · first
      | exact wpAny_bind (wpAny_pure (wpAny_pure (And.intro rfl h0)))
      | exact wpAny_pure (And.intro rfl h0)
  · first
      | exact wpAny_bind (wpAny_rule (wpAny_bind (wpAny_standAt (wpAny_bind (wpAny_mono h (fun it' s' h' => wpAny_pure (And.intro rfl h')) fun _ _ x => x)))))
      | (refine wpAny_bind (wpAny_rule ?_); show wpAny _ _ (standAt iter2.pos >>= _) _ _ s; exact wpAny_bind (wpAny_standAt (wpAny_bind (wpAny_mono h (fun it' s' h' => wpAny_pure (And.intro rfl h')) fun _ _ x => x))))
end
end
section
/-- where the comprehension stands: the law's frame, its own names, the list it grows, the rest -/
structure Sit (h₀ : Heap) (L : Addr) (m : Str → Option Value) (news : List (Addr × Obj)) (C D : Addr) (h : Heap) (ys : List Value) (m₂ : Str → Option Value) : Prop where
  F : Fr h₀ L h m
  gC : h.Ns C m₂
  gD : h.get? D = some (LCg.lst ys)
  gN : News h₀ L h news
structure Stat (h₀ : Heap) (L : Addr) (news : List (Addr × Obj)) (C D : Addr) : Prop where
  CL : C ≠ L
  DL : D ≠ L
  CD : C ≠ D
  C0 : h₀.get? C = none
  D0 : h₀.get? D = none
  off : ∀ p ∈ news, p.1 ≠ C ∧ p.1 ≠ D
section
variable {h₀ h h' : Heap} {L C D X : Addr} {m m₂ m₃ : Str → Option Value} {news : List (Addr × Obj)} {ys ys' : List Value}
theorem Sit.but (S : Sit h₀ L m news C D h ys m₂) (hk : ∀ b o, b ∉ [X] → h.get? b = some o → h'.get? b = some o) (hL : L ≠ X) (h0 : h₀.get? X = none) (hC : C ≠ X) (hD : D ≠ X) (off : ∀ p ∈ news, p.1 ≠ X) : Sit h₀ L m news C D h' ys m₂ :=
  ⟨LCg.fr_but S.F hk hL h0, S.gC.at' (fun o e => hk C o (by simpa using hC) e), hk D _ (by simpa using hD) S.gD, LCg.news_but S.gN hk off⟩
theorem Sit.grow (S : Sit h₀ L m news C D h ys m₂) (hk : ∀ b o, h.get? b = some o → h'.get? b = some o) : Sit h₀ L m news C D h' ys m₂ :=
  ⟨S.F.keeps hk, S.gC.at' (fun o e => hk _ _ e), hk _ _ S.gD, S.gN.grown hk⟩
theorem Sit.setC (S : Sit h₀ L m news C D h ys m₂) (T : Stat h₀ L news C D) (hn : h'.Ns C m₃) (hs : Heap.SameBut C h h') : Sit h₀ L m news C D h' ys m₃ :=
  ⟨S.F.change hs T.CL T.C0, hn, hs.extBut _ _ (Ne.symm T.CD) S.gD, fun p hp => ⟨hs.extBut _ _ (T.off p hp).1 (S.gN p hp).1, (S.gN p hp).2⟩⟩
theorem Sit.setD (S : Sit h₀ L m news C D h ys m₂) (T : Stat h₀ L news C D) (hs : Heap.SameBut D h h') (hD : h'.get? D = some (LCg.lst ys')) : Sit h₀ L m news C D h' ys' m₂ :=
  ⟨S.F.change hs T.DL T.D0, S.gC.sameBut hs T.CD, hD, fun p hp => ⟨hs.extBut _ _ (T.off p hp).2 (S.gN p hp).1, (S.gN p hp).2⟩⟩
end
section
variable {prog : Program} {w : World} {A : Around} {R : Result → Shared → Prop} {s : Shared} {elt iter1 iter2 : PySem.Expr} {x1 x2 : Str} {px1 px2 pos : Pos} {scope : Scope} {cl : List (Str × Addr)} {env : Env} {h₀ : Heap} {L : Addr} {m : Str → Option Value}
theorem inner_loop {n2 : Nat} {I2 C D : Addr} {news : List (Addr × Obj)} {ys₀ : List Value} {ns₀ : List Int} {m₂ : Str → Option Value} {k : Int} {t : Tok} (g : Int → Int)
    (hh : A.handled = none) (hx2 : scope.names.lookup x2 = some .local) (hkind : scope.kind = .function) (hne : x1 ≠ x2) (T : Stat h₀ L news C D) (i2L : L ≠ I2) (i20 : h₀.get? I2 = none) (i2C : C ≠ I2) (i2D : D ≠ I2) (i2N : ∀ p ∈ news, p.1 ≠ I2)
    (S : Sit h₀ L m news C D s.heap ys₀ m₂) (hk : m₂ x1 = some (.int k t)) (hI : IsRangeIter s.heap I2 (0 + (0 : Nat) * 1) ((n2 : Int) - (0 : Nat)) 1) (hin : IntsAre ys₀ ns₀) (hsz : ns₀.length + n2 ≤ 1000)
    (Helt : ∀ a t' m₃ oC h tk (E' : Value → Shared → Prop), 0 ≤ a → a < (n2 : Int) → LCg.NsObj oC m₃ → m₃ x1 = some (.int k t) → m₃ x2 = some (.int a t') → Fr h₀ L h m → News h₀ L h ((C, oC) :: news) →
      wpAny (model prog w) A (eval elt (compEnvC scope cl C env)) (fun y s' => ∃ t tk', y = .int (g a) t ∧ s' = { s with heap := h, toks := tk' }) E' { s with heap := h, toks := tk })
    (fin : ∀ h tk ys m₃, Sit h₀ L m news C D h ys m₃ → IntsAre ys (ns₀ ++ (rangeKs 0 n2).map g) → R (.ok .next) { s with heap := h, toks := tk }) :
    codeAny (model prog w) A (.compLoop (lc2 elt x1 x2 px1 px2 iter1 iter2 scope pos) 1 (.ref I2) (.ref D) (compEnvC scope cl C env)) R s := by
  have W := LCg.range_walks (prog := prog) (w := w) (A := A) (I := I2) hh 0 n2
  refine loop1 (fun j s' => ∃ h tk i ys m₃, s' = { s with heap := h, toks := tk } ∧ i ≤ n2 ∧ j = n2 + 1 - i ∧ IsRangeIter h I2 (0 + (i : Nat) * 1) ((n2 : Int) - (i : Nat)) 1 ∧ Sit h₀ L m news C D h ys m₃ ∧ m₃ x1 = some (.int k t) ∧ IntsAre ys (ns₀ ++ ((rangeKs 0 n2).take i).map g)) ?_ (n2 + 1)
    ⟨s.heap, s.toks, 0, ys₀, m₂, rfl, Nat.zero_le _, rfl, hI, S, hk, by simpa using hin⟩
  rintro j s' ⟨h, tk, i, ys, m₃, rfl, hi, rfl, hst, S', hk', hin'⟩
  by_cases hlt : i < n2
  · refine W.item i _ _ _ hlt hst fun v h₂ tk₂ hv hst₂ hk₂ => ?_
    obtain ⟨t', rfl⟩ := hv
    have S₂ := S'.but hk₂ i2L i20 i2C i2D i2N
    refine wpAny_assign_Name (wpAny_storeName_local (lookup_relabel_local hx2) S₂.gC (fun h₃ hn₃ hs₃ => ?_) (by simp [compEnvC, relabel, hkind]))
    have S₃ := S₂.setC T hn₃ hs₃
    have hst₃ := W.frame _ _ _ hst₂ fun b hb o e => hs₃.extBut b o (fun q => i2C (by rw [List.mem_singleton.mp hb] at q; exact q.symm)) e
    obtain ⟨oC, heC, hoC⟩ := LCg.ns_obj S₃.gC
    refine wpAny_mono (Helt (0 + (i : Int)) t' _ oC h₃ _ _ (by omega) (by omega) hoC (by simp [hne, hk']) (by simp) S₃.F (fun p hp => by
      rcases List.mem_cons.mp hp with rfl | hp
      · exact ⟨heC, T.CL, T.C0⟩
      · exact S₃.gN p hp)) (fun y s₄ h₄ => ?_) fun _ _ e => e
    obtain ⟨t'', tk₄, rfl, rfl⟩ := h₄
    have hlen := hin'.length
    have hlen2 : (ns₀ ++ ((rangeKs 0 n2).take i).map g).length ≤ ns₀.length + n2 := by simp [rangeKs_length]; omega
    refine append_at (hsz := by show ys.toArray.size ≤ sizeLine; rw [List.size_toArray, sizeLine_eq]; omega) S₃.gD fun h₅ hs₅ hD₅ => ?_
    refine ⟨n2 + 1 - (i + 1), by omega, h₅, _, i + 1, ys ++ [.int (g (0 + (i : Int))) t''], _, rfl, hlt, rfl, W.frame _ _ _ hst₃ fun b hb o e => hs₅.extBut b o (fun q => i2D (by rw [List.mem_singleton.mp hb] at q; exact q.symm)) e, S₃.setD T hs₅ (hD₅.trans (congrArg some (LCg.lst_snoc ys _))), by simp [hne, hk'], ?_⟩
    have hki : (rangeKs 0 n2)[i]? = some (0 + (i : Int)) := by simp [rangeKs, hlt]
    rw [List.take_add_one, hki]
    simp only [Option.toList_some, List.map_append, List.map_cons, List.map_nil, ← List.append_assoc]
    exact ints_snoc hin'
  · obtain rfl : i = n2 := Nat.le_antisymm hi (Nat.not_lt.mp hlt)
    refine W.done _ _ _ hst fun h₂ tk₂ hk₂ => ?_
    refine fin h₂ tk₂ ys m₃ (S'.but hk₂ i2L i20 i2C i2D i2N) ?_
    rwa [List.take_of_length_le (Nat.le_of_eq (rangeKs_length _ _))] at hin'
theorem outer_loop {n1 n2 : Nat} {I C D : Addr} {news : List (Addr × Obj)} {m₂ : Str → Option Value} (g : Int → Int → Int)
    (hh : A.handled = none) (hf : ∀ x, foldedSetIterable iter2 (compEnvC scope cl C env) x = pure x) (hx1 : scope.names.lookup x1 = some .local) (hx2 : scope.names.lookup x2 = some .local) (hkind : scope.kind = .function) (hne : x1 ≠ x2) (T : Stat h₀ L news C D) (iL : L ≠ I) (i0 : h₀.get? I = none) (iC : C ≠ I) (iD : D ≠ I) (iN : ∀ p ∈ news, p.1 ≠ I)
    (S : Sit h₀ L m news C D s.heap [] m₂) (hI : IsRangeIter s.heap I (0 + (0 : Nat) * 1) ((n1 : Int) - (0 : Nat)) 1) (h1 : n1 ≤ 20) (h2 : n2 ≤ 20)
    (Hit : ∀ k t m₃ oC h tk (E' : Value → Shared → Prop), 0 ≤ k → k < (n1 : Int) → LCg.NsObj oC m₃ → m₃ x1 = some (.int k t) → Fr h₀ L h m → News h₀ L h ((C, oC) :: news) →
      wpAny (model prog w) A (eval iter2 (compEnvC scope cl C env)) (fun x s' => ∃ r t u v h' tk', x = .ref r ∧ s' = { s with heap := h', toks := tk' } ∧ (∀ b o, h.get? b = some o → h'.get? b = some o) ∧ IsRange h' r 0 (n2 : Int) 1 t u v) E' { s with heap := h, toks := tk })
    (Helt : ∀ k a t t' m₃ oC h tk (E' : Value → Shared → Prop), 0 ≤ k → k < (n1 : Int) → 0 ≤ a → a < (n2 : Int) → LCg.NsObj oC m₃ → m₃ x1 = some (.int k t) → m₃ x2 = some (.int a t') → Fr h₀ L h m → News h₀ L h ((C, oC) :: news) →
      wpAny (model prog w) A (eval elt (compEnvC scope cl C env)) (fun y s' => ∃ t tk', y = .int (g k a) t ∧ s' = { s with heap := h, toks := tk' }) E' { s with heap := h, toks := tk })
    (fin : ∀ h tk ys m₃, Sit h₀ L m news C D h ys m₃ → IntsAre ys ((rangeKs 0 n1).flatMap fun k => (rangeKs 0 n2).map (g k)) → R (.ok .next) { s with heap := h, toks := tk }) :
    codeAny (model prog w) A (.compLoop (lc2 elt x1 x2 px1 px2 iter1 iter2 scope pos) 0 (.ref I) (.ref D) (compEnvC scope cl C env)) R s := by
  have W := LCg.range_walks (prog := prog) (w := w) (A := A) (I := I) hh 0 n1
  refine loop0 hf (fun j s' => ∃ h tk i ys m₃, s' = { s with heap := h, toks := tk } ∧ i ≤ n1 ∧ j = n1 + 1 - i ∧ IsRangeIter h I (0 + (i : Nat) * 1) ((n1 : Int) - (i : Nat)) 1 ∧ Sit h₀ L m news C D h ys m₃ ∧ IntsAre ys (((rangeKs 0 n1).take i).flatMap fun k => (rangeKs 0 n2).map (g k)) ∧ ys.length = i * n2) ?_ (n1 + 1)
    ⟨s.heap, s.toks, 0, [], m₂, rfl, Nat.zero_le _, rfl, hI, S, by simpa using IntsAre.nil, by simp⟩
  rintro j s' ⟨h, tk, i, ys, m₃, rfl, hi, rfl, hst, S', hin', hyl⟩
  by_cases hlt : i < n1
  · refine W.item i _ _ _ hlt hst fun v h₂ tk₂ hv hst₂ hk₂ => ?_
    obtain ⟨t', rfl⟩ := hv
    have S₂ := S'.but hk₂ iL i0 iC iD iN
    refine wpAny_assign_Name (wpAny_storeName_local (lookup_relabel_local hx1) S₂.gC (fun h₃ hn₃ hs₃ => ?_) (by simp [compEnvC, relabel, hkind]))
    have S₃ := S₂.setC T hn₃ hs₃
    have hst₃ := W.frame _ _ _ hst₂ fun b hb o e => hs₃.extBut b o (fun q => iC (by rw [List.mem_singleton.mp hb] at q; exact q.symm)) e
    obtain ⟨oI, hoI, hoE⟩ : ∃ o, h₃.get? I = some o ∧ (∀ h' : Heap, h'.get? I = some o → IsRangeIter h' I (0 + ((i + 1 : Nat) : Nat) * 1) ((n1 : Int) - ((i + 1 : Nat) : Nat)) 1) := ⟨_, hst₃, fun _ e => e⟩
    obtain ⟨oC, heC, hoC⟩ := LCg.ns_obj S₃.gC
    refine wpAny_mono (Hit (0 + (i : Int)) t' _ oC h₃ _ _ (by omega) (by omega) hoC (by simp) S₃.F (fun p hp => by
      rcases List.mem_cons.mp hp with rfl | hp
      · exact ⟨heC, T.CL, T.C0⟩
      · exact S₃.gN p hp)) (fun y s₄ h₄ => ?_) fun _ _ e => e
    obtain ⟨r, t1, u1, v1, h₄, tk₄, rfl, rfl, gr, hr⟩ := h₄
    refine wpAny_pyIter_range hr (small_one (by omega) (by omega) (by omega) (by omega)) ?_
    have S₄ := S₃.grow gr
    have hL4 : L < h₄.objs.size := S₄.F.ns.lt
    have S₅ := S₄.grow (h' := h₄.push { cls := .type "range_iterator", data := .fields #[rawInt 0, rawInt (Builtin.Range.rangeSize 0 (n2 : Int) 1), rawInt 1] }) (fun _ _ e => Heap.get?_push_of_some _ e)
    have hI₅ : (h₄.push { cls := .type "range_iterator", data := .fields #[rawInt 0, rawInt (Builtin.Range.rangeSize 0 (n2 : Int) 1), rawInt 1] }).get? I = some oI := Heap.get?_push_of_some _ (gr _ _ hoI)
    have hCs : C < h₄.objs.size := S₄.gC.lt
    have hDs : D < h₄.objs.size := Heap.lt_size S₄.gD
    have hIs : I < h₄.objs.size := Heap.lt_size (gr _ _ hoI)
    have lp : ∀ sx : Shared, sx = { s with heap := h₄.push { cls := .type "range_iterator", data := .fields #[rawInt 0, rawInt (Builtin.Range.rangeSize 0 (n2 : Int) 1), rawInt 1] }, toks := tk₄ } →
        codeAny (model prog w) A (.compLoop (lc2 elt x1 x2 px1 px2 iter1 iter2 scope pos) 1 (.ref h₄.objs.size) (.ref D) (compEnvC scope cl C env))
          (fun r s' => match r with | .ok _ => ∃ m', m' < n1 + 1 - i ∧ (∃ h tk i ys m₃, s' = { s with heap := h, toks := tk } ∧ i ≤ n1 ∧ m' = n1 + 1 - i ∧ IsRangeIter h I (0 + (i : Nat) * 1) ((n1 : Int) - (i : Nat)) 1 ∧ Sit h₀ L m news C D h ys m₃ ∧ IntsAre ys (((rangeKs 0 n1).take i).flatMap fun k => (rangeKs 0 n2).map (g k)) ∧ ys.length = i * n2) | .error _ => False) sx := by
      rintro sx rfl
      have hb : ys.length ≤ 400 := by
        rw [hyl]; exact Nat.le_trans (Nat.mul_le_mul (Nat.le_trans hi h1) h2) (by decide)
      have hil := hin'.length
      refine inner_loop (news := (I, oI) :: news) (ns₀ := ((rangeKs 0 n1).take i).flatMap fun k => (rangeKs 0 n2).map (g k)) (k := 0 + (i : Int)) (t := t') (n2 := n2) (ys₀ := ys) (g (0 + (i : Int))) hh hx2 hkind hne
        ⟨T.CL, T.DL, T.CD, T.C0, T.D0, fun p hp => ?_⟩ (Nat.ne_of_lt hL4) (next_is_new S₄.F) (Nat.ne_of_lt hCs) (Nat.ne_of_lt hDs) (fun p hp => ?_) ⟨S₅.F, S₅.gC, S₅.gD, fun p hp => ?_⟩ (by simp) ?_ hin' (by omega)
        (fun a ta m₄ oC' h' tk' E' ha ha' hoC' e1 e2 F' N' => Helt _ a t' ta m₄ oC' h' tk' E' (by omega) (by omega) ha ha' hoC' e1 e2 F' (fun p hp => N' p (by
          rcases List.mem_cons.mp hp with rfl | hp
          · exact .head _
          · exact .tail _ (.tail _ hp)))) ?_
      · rcases List.mem_cons.mp hp with rfl | hp
        · exact ⟨Ne.symm iC, Ne.symm iD⟩
        · exact T.off p hp
      · rcases List.mem_cons.mp hp with rfl | hp
        · exact Nat.ne_of_lt hIs
        · exact Nat.ne_of_lt (Heap.lt_size (S₄.gN p hp).1)
      · rcases List.mem_cons.mp hp with rfl | hp
        · exact ⟨hI₅, Ne.symm iL, i0⟩
        · exact S₅.gN p hp
      · show (h₄.push _).get? h₄.objs.size = some _
        rw [Heap.get?_push_size _ rfl, rangeSize_nat]
        simp
      · intro h₆ tk₆ ys₆ m₆ S₆ in₆
        refine ⟨n1 + 1 - (i + 1), by omega, h₆, tk₆, i + 1, ys₆, m₆, rfl, hlt, rfl, hoE _ (S₆.gN _ (.head _)).1, ⟨S₆.F, S₆.gC, S₆.gD, fun p hp => S₆.gN p (.tail _ hp)⟩, ?_, ?_⟩
        · have hki : (rangeKs 0 n1)[i]? = some (0 + (i : Int)) := by simp [rangeKs, hlt]
          rw [List.take_add_one, hki]
          simpa using in₆
        · have := in₆.length
          simp only [List.length_append, List.length_map, rangeKs_length] at this
          rw [this, ← hil, hyl, Nat.add_mul, Nat.one_mul]
    exact start1 (lp _ rfl) (wpAny_pyIter_rangeiter (it := h₄.objs.size) (by show (h₄.push _).get? h₄.objs.size = some _; exact Heap.get?_push_size _ rfl) (lp _ rfl))
  · obtain rfl : i = n1 := Nat.le_antisymm hi (Nat.not_lt.mp hlt)
    refine W.done _ _ _ hst fun h₂ tk₂ hk₂ => ?_
    refine fin h₂ tk₂ ys m₃ (S'.but hk₂ iL i0 iC iD iN) ?_
    rwa [List.take_of_length_le (Nat.le_of_eq (rangeKs_length _ _))] at hin'
end
end
section
section
variable {prog : Program} {w : World} {A : Around} {E : Value → Shared → Prop} {s : Shared} {elt iter1 iter2 : PySem.Expr} {x1 x2 : Str} {px1 px2 pos : Pos} {scope : Scope} {cl : List (Str × Addr)} {env : Env} {h₀ : Heap} {L : Addr} {m : Str → Option Value}
theorem block2 {n1 n2 : Nat} {I : Addr} {news : List (Addr × Obj)} {RR : Value → Addr → Result → Shared → Prop} (g : Int → Int → Int)
    (hh : A.handled = none) (hf : ∀ C x, foldedSetIterable iter2 (compEnvC scope cl C env) x = pure x) (hcell : ∀ y ∈ scope.names, y.2 ≠ .cell) (hkind : scope.kind = .function) (hx1 : scope.names.lookup x1 = some .local) (hx2 : scope.names.lookup x2 = some .local) (hne : x1 ≠ x2)
    (F : Fr h₀ L s.heap m) (N : News h₀ L s.heap news) (iL : L ≠ I) (i0 : h₀.get? I = none) (iN : ∀ p ∈ news, p.1 ≠ I) (hI : IsRangeIter s.heap I (0 + (0 : Nat) * 1) ((n1 : Int) - (0 : Nat)) 1) (h1 : n1 ≤ 20) (h2 : n2 ≤ 20)
    (Hit : ∀ C k t m₃ oC h tk (E' : Value → Shared → Prop), 0 ≤ k → k < (n1 : Int) → LCg.NsObj oC m₃ → m₃ x1 = some (.int k t) → Fr h₀ L h m → News h₀ L h ((C, oC) :: news) →
      wpAny (model prog w) A (eval iter2 (compEnvC scope cl C env)) (fun x s' => ∃ r t u v h' tk', x = .ref r ∧ s' = { s with heap := h', toks := tk' } ∧ (∀ b o, h.get? b = some o → h'.get? b = some o) ∧ IsRange h' r 0 (n2 : Int) 1 t u v) E' { s with heap := h, toks := tk })
    (Helt : ∀ C k a t t' m₃ oC h tk (E' : Value → Shared → Prop), 0 ≤ k → k < (n1 : Int) → 0 ≤ a → a < (n2 : Int) → LCg.NsObj oC m₃ → m₃ x1 = some (.int k t) → m₃ x2 = some (.int a t') → Fr h₀ L h m → News h₀ L h ((C, oC) :: news) →
      wpAny (model prog w) A (eval elt (compEnvC scope cl C env)) (fun y s' => ∃ t tk', y = .int (g k a) t ∧ s' = { s with heap := h, toks := tk' }) E' { s with heap := h, toks := tk })
    (hRR : ∀ D C h tk m' ys, Stat h₀ L news C D → Sit h₀ L m news C D h ys m' → IntsAre ys ((rangeKs 0 n1).flatMap fun k => (rangeKs 0 n2).map (g k)) → RR (.ref D) C (.ok .next) { s with heap := h, toks := tk }) :
    wpAny (model prog w) A (newList []) (fun acc s₃ => wpAny (model prog w) A (newFunctionEnv scope env.globals cl [] env.qual none .none (some env)) (fun cenv s₄ =>
      codeAny (model prog w) A (.compStart (lc2 elt x1 x2 px1 px2 iter1 iter2 scope pos) 0 (.ref I) acc { cenv with scope := relabel scope env }) (RR acc cenv.locals) s₄) E s₃) E s := by
  refine wpAny_newObj_type (wpAny_newFunctionEnv hcell (by intro y hy; simp at hy) (fun h₁ hns₁ hsb₁ => ?_) hkind)
  dsimp only at hns₁ hsb₁ ⊢
  generalize hH2 : s.heap.push { cls := .type "list", dict := none, data := .seq ([] : List Value).toArray } = H2 at hns₁ hsb₁ ⊢
  have hC : H2.objs.size = s.heap.objs.size + 1 := by rw [← hH2, Heap.size_push]
  have hDC : s.heap.objs.size ≠ H2.objs.size := by rw [hC]; exact Nat.ne_of_lt (Nat.lt_succ_self _)
  have below : ∀ b, b < s.heap.objs.size → b ≠ H2.objs.size ∧ b ≠ s.heap.objs.size := fun b hb => ⟨by rw [hC]; exact Nat.ne_of_lt (Nat.lt_succ_of_lt hb), Nat.ne_of_lt hb⟩
  have hIlt : I < s.heap.objs.size := Heap.lt_size hI
  have old : ∀ b o, s.heap.get? b = some o → h₁.get? b = some o := fun b o e => hsb₁.extBut b o (below b (Heap.lt_size e)).1 (Heap.get?_push_of_some _ (hH2 ▸ Heap.get?_push_of_some _ e))
  have hacc : h₁.get? s.heap.objs.size = some (LCg.lst []) := hsb₁.extBut _ _ hDC (Heap.get?_push_of_some _ (hH2 ▸ Heap.get?_push_size _ rfl))
  have fresh : ∀ a, s.heap.objs.size ≤ a → s.heap.get? a = none := fun a ha => by
    cases e : s.heap.get? a with
    | none => rfl
    | some o' => exact absurd (Heap.lt_size e) (Nat.not_lt.mpr ha)
  have fresh₀ : ∀ a, s.heap.objs.size ≤ a → h₀.get? a = none := fun a ha => by
    cases e : h₀.get? a with
    | none => rfl
    | some o' => have := F.keep a o' e; rw [fresh a ha] at this; cases this
  have hLlt : L < s.heap.objs.size := F.ns.lt
  have T : Stat h₀ L news H2.objs.size s.heap.objs.size := ⟨Ne.symm (below L hLlt).1, Ne.symm (below L hLlt).2, Ne.symm hDC, fresh₀ _ (by rw [hC]; exact Nat.le_succ _), fresh₀ _ (Nat.le_refl _),
    fun p hp => below _ (Heap.lt_size (N p hp).1)⟩
  have loop : ∀ s₃ : Shared, s₃ = { s with heap := h₁, toks := s.toks + ([] : List (Str × Value)).length } →
      codeAny (model prog w) A (.compLoop (lc2 elt x1 x2 px1 px2 iter1 iter2 scope pos) 0 (.ref I) (.ref s.heap.objs.size) (compEnvC scope cl H2.objs.size env))
        (RR (.ref s.heap.objs.size) H2.objs.size) s₃ := by
    rintro s₃ rfl
    exact outer_loop (n1 := n1) (n2 := n2) (news := news) g hh (hf _) hx1 hx2 hkind hne T iL i0 (Ne.symm (below I hIlt).1) (Ne.symm (below I hIlt).2) iN ⟨F.keeps old, hns₁, hacc, N.grown old⟩ (old _ _ hI) h1 h2
      (fun k t m₃ oC h tk E' => Hit _ k t m₃ oC h tk E') (fun k a t t' m₃ oC h tk E' => Helt _ k a t t' m₃ oC h tk E') (fun h tk ys m₃ S i => hRR _ _ h tk m₃ ys T S i)
  exact codeAny_compStart_list (loop _ rfl) (wpAny_pyIter_rangeiter (it := I) (old _ _ hI) (loop _ rfl))
theorem order_assign {n1 n2 : Nat} {news : List (Addr × Obj)} {y : Str} {py spos : Pos} {Q : Flow → Shared → Prop} (g : Int → Int → Int) (_ : Fr h₀ L s.heap m) (_ : News h₀ L s.heap news) (hLe : env.locals = L)
    (hh : A.handled = none) (hsw : swapsWith (lc2 elt x1 x2 px1 px2 iter1 iter2 scope pos) (some (.Name y py)) spos.line env = pure true)
    (hclos : closureFor scope env = pure cl) (hcell : ∀ z ∈ scope.names, z.2 ≠ .cell) (hkind : scope.kind = .function)
    (hnames : ∀ z ∈ scope.names, z.2 = .local → scope.names.lookup z.1 = some .local) (hx1 : scope.names.lookup x1 = some .local) (hx2 : scope.names.lookup x2 = some .local) (hne : x1 ≠ x2)
    (hy : env.kindOf y = some .local) (hp : (env.scope.kind == .class || (env.scope.kind == .module && env.locals != env.globals)) = false) (h1 : n1 ≤ 20) (h2 : n2 ≤ 20)
    (hit1 : wpAny (model prog w) A (eval iter1 env) (fun xv s₁ => ∃ r t u v h' tk', xv = .ref r ∧ s₁ = { s with heap := h', toks := tk' } ∧ Fr h₀ L h' m ∧ News h₀ L h' news ∧ IsRange h' r 0 (n1 : Int) 1 t u v) E s)
    (Hit : ∀ C k t m₃ oC h tk (E' : Value → Shared → Prop), 0 ≤ k → k < (n1 : Int) → LCg.NsObj oC m₃ → m₃ x1 = some (.int k t) → Fr h₀ L h m → News h₀ L h ((C, oC) :: news) →
      wpAny (model prog w) A (eval iter2 (compEnvC scope cl C env)) (fun x s' => ∃ r t u v h' tk', x = .ref r ∧ s' = { s with heap := h', toks := tk' } ∧ (∀ b o, h.get? b = some o → h'.get? b = some o) ∧ IsRange h' r 0 (n2 : Int) 1 t u v) E' { s with heap := h, toks := tk })
    (Helt : ∀ C k a t t' m₃ oC h tk (E' : Value → Shared → Prop), 0 ≤ k → k < (n1 : Int) → 0 ≤ a → a < (n2 : Int) → LCg.NsObj oC m₃ → m₃ x1 = some (.int k t) → m₃ x2 = some (.int a t') → Fr h₀ L h m → News h₀ L h ((C, oC) :: news) →
      wpAny (model prog w) A (eval elt (compEnvC scope cl C env)) (fun y s' => ∃ t tk', y = .int (g k a) t ∧ s' = { s with heap := h, toks := tk' }) E' { s with heap := h, toks := tk })
    (done : ∀ D h tk ys, Fr h₀ L h (fun z => if z = y then some (.ref D) else m z) → News h₀ L h ((D, LCg.lst ys) :: news) → (∀ p ∈ news, p.1 ≠ D) → IntsAre ys ((rangeKs 0 n1).flatMap fun k => (rangeKs 0 n2).map (g k)) → Q .next { s with heap := h, toks := tk })
    (hs : ∀ x, foldedSetIterable iter1 env x = pure x := by intro _; rfl) (hf : ∀ C x, foldedSetIterable iter2 (compEnvC scope cl C env) x = pure x := by intro _ _; rfl) :
    wpAny (model prog w) A (exec (.Assign [.Name y py] (lc2 elt x1 x2 px1 px2 iter1 iter2 scope pos) spos) env) Q E s := by
  subst hLe
  rw [exec_Assign_Name_used _ _ _ _ hsw]
  refine wpAny_bind (wpAny_standAt (wpAny_bind ?_))
  show wpAny _ A (do let _ ← comprehension (lc2 elt x1 x2 px1 px2 iter1 iter2 scope pos) scope env _ (newList []) false (eval iter1 env) (some (assign (.Name y py) env))) _ _ s
  refine wpAny_bind (wpAny_mono (wpAny_comprehension_free (use := some (assign (.Name y py) env)) (Q := fun _ s' => Q .next s') rfl hs hclos hkind hnames
    (wpAny_mono hit1 (fun xv s₁ hq => ?_) fun _ _ e => e)) (fun _ s' hq => wpAny_pure (wpAny_pure hq)) fun _ _ e => e)
  obtain ⟨r, t, u, v, h', tk', rfl, rfl, F, N, hr⟩ := hq
  refine wpAny_pyIter_range hr (small_one (by omega) (by omega) (by omega) (by omega)) ?_
  refine block2 (n1 := n1) (n2 := n2) (h₀ := h₀) (L := env.locals) (m := m) (news := news) g hh hf hcell hkind hx1 hx2 hne (F.push _) (N.grown fun _ _ e => Heap.get?_push_of_some _ e) (Nat.ne_of_lt F.ns.lt) (next_is_new F) (fun p hp => Nat.ne_of_lt (Heap.lt_size (N p hp).1))
    (by show (h'.push _).get? h'.objs.size = some _; rw [Heap.get?_push_size _ rfl, rangeSize_nat]; simp) h1 h2 Hit Helt ?_
  intro D C h₂ tk₂ m' ys T S hi
  show wpAny _ A (assign (.Name y py) env (.ref D)) _ _ _
  refine wpAny_assign_Name (wpAny_storeName_local hy S.F.ns (fun h₃ hn₃ hs₃ => ?_) hp)
  have hL₀ : h₀.get? env.locals = none := Heap.get?_none_of_le S.F.above
  have F₃ : Fr h₀ env.locals h₃ (fun z => if z = y then some (.ref D) else m z) := ⟨hn₃, fun b o e => hs₃.extBut b o (fun q => by rw [q, hL₀] at e; cases e) (S.F.keep b o e), S.F.above⟩
  refine ⟨m', S.gC.sameBut hs₃ T.CL, fun h'' hs'' => done D h'' _ ys (F₃.change hs'' T.CL T.C0) (fun p hp => ?_) (fun p hp => (T.off p hp).2) hi⟩
  rcases List.mem_cons.mp hp with rfl | hp
  · exact ⟨hs''.extBut _ _ (Ne.symm T.CD) (hs₃.extBut _ _ T.DL S.gD), T.DL, T.D0⟩
  · exact ⟨hs''.extBut _ _ (T.off p hp).1 (hs₃.extBut _ _ (S.gN p hp).2.1 (S.gN p hp).1), (S.gN p hp).2⟩
end
end
theorem fmod_rng (z : Int) {k : Int} (h : 0 < k) : 0 ≤ z.fmod k ∧ z.fmod k < k := ⟨Int.fmod_nonneg_of_pos z h, Int.fmod_lt_of_pos z h⟩
theorem take4 (l : List Int) : (List.take 4 (l ++ [0, 0, 0, 0])).length = 4 := by simp [List.length_take]
theorem letter1 (z : Int) : ∃ a : Nat, Txt.item (Str.ofString "abcdefghijklm") (z.fmod 13) = ⟨#[a]⟩ ∧ a ≤ 109 := by
  have h := fmod_rng z (k := 13) (by decide)
  have hl : (Str.ofString "abcdefghijklm").length = 13 := by decide +kernel
  refine ⟨_, item_meets ⟨h.1, by rw [hl]; exact h.2⟩, ?_⟩
  have key : ∀ k : Nat, k < 13 → (Str.ofString "abcdefghijklm").cps.getD k 0 ≤ 109 := by decide +kernel
  exact key _ (by omega)
theorem letter2 (z : Int) : ∃ a : Nat, Txt.item (Str.ofString "nopqrstuvwxyz") (z.fmod 13) = ⟨#[a]⟩ ∧ 110 ≤ a := by
  have h := fmod_rng z (k := 13) (by decide)
  have hl : (Str.ofString "nopqrstuvwxyz").length = 13 := by decide +kernel
  refine ⟨_, item_meets ⟨h.1, by rw [hl]; exact h.2⟩, ?_⟩
  have key : ∀ k : Nat, k < 13 → 110 ≤ (Str.ofString "nopqrstuvwxyz").cps.getD k 0 := by decide +kernel
  exact key _ (by omega)
theorem fr_any {h₀ h : Heap} {L : Addr} {m : Str → Option Value} (F : Fr h₀ L h m) : ∃ m', Fr h₀ L h m' := ⟨m, F⟩
theorem news_drop4 {h₀ h : Heap} {L : Addr} {a b c d : Addr × Obj} {l : List (Addr × Obj)} (N : News h₀ L h (a :: b :: c :: d :: l)) : News h₀ L h l := fun p hp => N p (.tail _ (.tail _ (.tail _ (.tail _ hp))))
theorem cell_int {o : Obj} {v v' : Int} {t : Tok} (h : o.data = .cell (some (.int v t))) (e : v = v') : ∃ t', o.data = .cell (some (.int v' t')) := ⟨t, e ▸ h⟩
theorem cell_str {o : Obj} {v v' : Str} {t : Tok} (h : o.data = .cell (some (.str v t))) (e : v = v') : ∃ t', o.data = .cell (some (.str v' t')) := ⟨t, e ▸ h⟩
/-- the letter at place k of the line -/
def lineL (n p lo hi : Nat) (k : Int) : Str := if (n : Int) - (p : Int) ≤ (k * (p : Int)).fmod (n : Int) then ⟨#[hi]⟩ else ⟨#[lo]⟩
theorem lineL_pos {n p lo hi : Nat} {k : Int} {t : Tok} {news : List (Addr × Obj)} (h : (n : Int) - (p : Int) ≤ (k * (p : Int)).fmod (n : Int)) : KCtEl news (lineL n p lo hi k) (.str ⟨#[hi]⟩ t) news := ⟨rfl, t, by unfold lineL; rw [if_pos h]⟩
theorem lineL_neg {n p lo hi : Nat} {k : Int} {t : Tok} {news : List (Addr × Obj)} (h : ¬ (n : Int) - (p : Int) ≤ (k * (p : Int)).fmod (n : Int)) : KCtEl news (lineL n p lo hi k) (.str ⟨#[lo]⟩ t) news := ⟨rfl, t, by unfold lineL; rw [if_neg h]⟩
theorem join_flat {sep : Str} (hs : sep.cps = #[]) : ∀ l : List Str, (Str.join sep l).cps.toList = (l.map fun x => x.cps.toList).flatten
  | [] => rfl
  | [x] => by simp [Str.join]
  | x :: y :: r => by
    have ih := join_flat hs (y :: r)
    show ((x ++ sep) ++ Str.join sep (y :: r)).cps.toList = _
    have e : ((x ++ sep) ++ Str.join sep (y :: r)).cps = x.cps ++ sep.cps ++ (Str.join sep (y :: r)).cps := rfl
    rw [e, hs, List.map_cons, List.flatten_cons, ← ih]
    simp
theorem lineL_one (n p lo hi : Nat) (k : Int) : (lineL n p lo hi k).length = 1 := by
  unfold lineL; split <;> rfl
theorem lineL_nat {n p lo hi : Nat} (hpn : p + 1 ≤ n) (i : Nat) : (lineL n p lo hi (i : Int)).cps.toList = [lett lo hi (decide (n - p ≤ i * p % n))] := by
  have e : (((i : Int) * (p : Int)).fmod (n : Int)) = ((i * p % n : Nat) : Int) := by
    rw [Int.fmod_eq_emod_of_nonneg _ (by omega)]
    norm_cast
  unfold lineL lett
  rw [e]
  by_cases h : n - p ≤ i * p % n
  · rw [if_pos (by omega)]; simp [h]
  · rw [if_neg (by omega)]; simp [h]
theorem join_line {n p lo hi : Nat} (hpn : p + 1 ≤ n) : (Txt.join (Str.ofString "") ((rangeKs 0 n).map (lineL n p lo hi))).cps.toList = lineC n p lo hi := by
  show (Builtin.Str.glued (Str.ofString "") ((rangeKs 0 n).map (lineL n p lo hi))).cps.toList = _
  rw [StrLaws.glued_eq_join, join_flat (by decide), List.map_map]
  have e : rangeKs 0 n = (List.range n).map (fun i : Nat => (i : Int)) := by
    apply List.ext_getElem?
    intro i
    simp [rangeKs]
  rw [e, List.map_map]
  unfold lineC bits
  rw [List.map_map]
  generalize List.range n = l
  induction l with
  | nil => rfl
  | cons a r ih => simp only [List.map_cons, List.flatten_cons, Function.comp] at ih ⊢; rw [ih, lineL_nat hpn]; rfl
theorem news_drop1 {h₀ h : Heap} {L : Addr} {a : Addr × Obj} {l : List (Addr × Obj)} (N : News h₀ L h (a :: l)) : News h₀ L h l := fun p hp => N p (.tail _ hp)
theorem txt_from {x : Str} {i : Int} (h0 : 0 ≤ i) (h : i ≤ (x.length : Int)) : (Txt.slice x (some i) none).cps.toList = x.cps.toList.drop i.toNat := by
  rw [slice_from_eq (b := (x.length : Int)) h0 h rfl]
  have e : x.cps.toList.length = x.length := by simp [Str.length]
  show (x.cps.toList.drop i.toNat).take ((x.length : Int) - i).toNat = _
  rw [List.take_of_length_le]
  rw [List.length_drop, e]; omega
theorem txt_to {x : Str} {j : Int} (h0 : 0 ≤ j) (h : j ≤ (x.length : Int)) : (Txt.slice x none (some j)).cps.toList = x.cps.toList.take j.toNat := by
  rw [beq_iff_eq.mp (slice_closes_toL h0 h)]
  simp
theorem len_of_cps {x : Str} {l : List Nat} (h : x.cps.toList = l) : x.length = l.length := by rw [← h]; simp [Str.length]
theorem news_left {h₀ h : Heap} {L : Addr} {a b : List (Addr × Obj)} (N : News h₀ L h (a ++ b)) : News h₀ L h a := fun p hp => N p (List.mem_append_left _ hp)
theorem news_take {h₀ h : Heap} {L : Addr} (k : Nat) {l : List (Addr × Obj)} (N : News h₀ L h l) : News h₀ L h (l.take k) := fun p hp => N p (List.mem_of_mem_take hp)
theorem fdiv_nat (n r : Nat) : (n : Int).fdiv (r : Int) = ((n / r : Nat) : Int) := by
  rw [Int.fdiv_eq_ediv_of_nonneg _ (by omega)]; norm_cast
theorem ord_eq (r q : Nat) (f : Int → Int → Int) : ((rangeKs 0 r).flatMap fun k => (rangeKs 0 q).map (f k)) = (List.range r).flatMap (fun k : Nat => (List.range q).map fun a : Nat => f (k : Int) (a : Int)) := by
  have e : ∀ n, rangeKs 0 n = (List.range n).map (fun i : Nat => (i : Int)) := fun n => by
    unfold rangeKs; apply List.map_congr_left; intro a _; omega
  rw [e, e, List.flatMap_map]
  simp only [List.map_map]
  rfl
/-- the turn begun at place k -/
def turnS (X : Str) (k : Int) : Str := Txt.slice X (some k) none ++ Txt.slice X none (some k)
theorem turnS_cps {X : Str} {n p lo hi : Nat} (e5 : X.length = n) (eX : X.cps.toList = lineC n p lo hi) : ∀ i, 0 ≤ i → i < (n : Int) → (turnS X i).cps.toList = rot (lineC n p lo hi) i.toNat := by
  intro i h0 h1
  unfold turnS rot
  have e : (Txt.slice X (some i) none ++ Txt.slice X none (some i)).cps = (Txt.slice X (some i) none).cps ++ (Txt.slice X none (some i)).cps := rfl
  rw [e, Array.toList_append, txt_from h0 (by omega), txt_to h0 (by omega), eX]
theorem stretch_at {f : Int → Str} {OO : List Int} {b c j : Nat} {y : Str} (h : ((List.take c (List.drop b OO)).map f)[j]? = some y) : y = f (OO.getD (b + j) 0) := by
  rw [List.getElem?_map, List.getElem?_take] at h
  split at h
  · rw [List.getElem?_drop] at h
    rw [List.getD_eq_getElem?_getD]
    cases e : OO[b + j]? with
    | none => rw [e] at h; cases h
    | some v => rw [e] at h; exact (Option.some.inj h).symm
  · cases h
theorem turn_item {X y : Str} {k : Int} {n : Nat} (h0 : 0 ≤ k) (h1 : k < (n : Int)) (hy : ((rangeKs 0 n).map (turnS X))[k.toNat]? = some y) : y = turnS X k := by
  have hlt : k.toNat < n := by omega
  have e : (rangeKs 0 n)[k.toNat]? = some k := by simp [rangeKs, hlt]; omega
  rw [List.getElem?_map, e] at hy
  exact (Option.some.inj hy).symm
/-- what a median hands back, told by the order -/
theorem med_at {X y : Str} {n p lo hi : Nat} {kB kE : Int} {OO nq : List Int} {ss' : List Str} {j : Nat} (hn2 : 2 ≤ n) (hn9 : n ≤ 9) (hp1 : 1 ≤ p) (hpn : p + 1 ≤ n) (hlh : lo < hi) (e5 : X.length = n) (eX : X.cps.toList = lineC n p lo hi)
    (hOO : ordZ n p = OO) (pq : nq.Perm (List.take (min kE.toNat OO.length - kB.toNat) (List.drop kB.toNat OO))) (hp : ss'.Perm (nq.map (turnS X))) (hs : sortedS ss' = true) (hy : ss'[j]? = some y) : y = turnS X (OO.getD (kB.toNat + j) 0) := by
  have e := stretch hn2 hn9 hp1 hpn hlh (turnS_cps e5 eX) (o := List.take (min kE.toNat OO.length - kB.toNat) (List.drop kB.toNat OO)) (by rw [hOO]; exact (List.take_sublist _ _).trans (List.drop_sublist _ _)) pq hp hs
  rw [e] at hy
  exact stretch_at hy
section
variable {prog : Program} {w : World} {A : Around} {E : Value → Shared → Prop} {s : Shared} {Q : Value → Shared → Prop}
theorem ne_same {x y : Str} {t u : Tok} (e : x = y) (h : Q (.bool false) s) : wpAny (model prog w) A (compareOp .NotEq (.str x t) (.str y u)) Q E s := by
  subst e
  refine ne_str ?_
  simpa using h
end
theorem low_idx {kB kE : Int} {l : Nat} (h0 : 0 ≤ kB) (h1 : kB + 1 ≤ kE) (hl : (l : Int) = kE - kB) : kB.toNat + (l - 1) / 2 = ((kB + kE - 1).fdiv 2).toNat := by
  rw [Int.fdiv_eq_ediv_of_nonneg _ (by omega)]; omega
theorem high_idx {kB kE : Int} {l : Nat} (h0 : 0 ≤ kB) (h1 : kB + 1 ≤ kE) (hl : (l : Int) = kE - kB) : kB.toNat + l / 2 = ((kB + kE).fdiv 2).toNat := by
  rw [Int.fdiv_eq_ediv_of_nonneg _ (by omega)]; omega
theorem fdiv2_rng {a : Int} (h0 : 0 ≤ a) : 0 ≤ a.fdiv 2 ∧ 2 * a.fdiv 2 ≤ a := by
  rw [Int.fdiv_eq_ediv_of_nonneg _ (by omega)]; omega
theorem turn_el {X y : Str} {k : Int} {n : Nat} {t : Tok} {news : List (Addr × Obj)} (h0 : 0 ≤ k) (h1 : k < (n : Int)) (hy : ((rangeKs 0 n).map (turnS X))[k.toNat]? = some y) : KCtEl news (turnS X k) (.str y t) news := by
  refine ⟨rfl, t, ?_⟩
  have hlt : k.toNat < n := by omega
  have e : (rangeKs 0 n)[k.toNat]? = some k := by simp [rangeKs, hlt]; omega
  rw [List.getElem?_map, e] at hy
  rw [← Option.some.inj hy]
theorem getD_in {l : List Int} {i : Nat} (h : i < l.length) : l.getD i 0 ∈ l := by
  rw [List.getD_eq_getElem?_getD, List.getElem?_eq_getElem h]; exact List.getElem_mem h
theorem whole : PySem.Challenge.rw_rs0026_01.Holds := by
  exact Mine.hd (by
    k_with_none
    w_strict (k_go0; (all_goals try k_fold)
              rename World => w
              rename Shared => s₁
              rename List Int => scr
              repeat (first | (k_unfold; (try dsimp only)) | ((fail_if_success (with_reducible show wpAny _ _ (exec (Stmt.Assign [Expr.Name (Str.ofString "squares") _] _ _) _) _ _ _)); walk1))
              (have hd4 := take4 scr)
              generalize List.take 4 (scr ++ [0, 0, 0, 0]) = dr at *
              repeat (first | (k_unfold; (try dsimp only)) | ((fail_if_success (with_reducible show wpAny _ _ (exec (Stmt.Assign [Expr.Name (Str.ofString "rise") _] _ _) _) _ _ _)); walk1))
              (have hq8 := fmod_rng (dr.getD (Int.toNat 0) 0 + 4) (k := 8) (by decide))
              generalize (dr.getD (Int.toNat 0) 0 + 4).fmod 8 = q8 at *
              repeat (first | (k_unfold; (try dsimp only)) | ((fail_if_success (with_reducible show wpAny _ _ (exec (Stmt.Assign [Expr.Name (Str.ofString "lesser") _] _ _) _) _ _ _)); walk1))
              (have hqp := fmod_rng (dr.getD (Int.toNat 1) 0 + 1) (k := 2 + q8 - 1) (by omega))
              generalize (dr.getD (Int.toNat 1) 0 + 1).fmod (2 + q8 - 1) = qp at *
              repeat (first | (k_unfold; (try dsimp only)) | ((fail_if_success (with_reducible show wpAny _ _ (exec (Stmt.Assign [Expr.Name (Str.ofString "line") _] _ _) _) _ _ _)); walk1))
              (obtain ⟨lo, elo, hlo⟩ := letter1 (dr.getD (Int.toNat 2) 0))
              (obtain ⟨hi, ehi, hhi⟩ := letter2 (dr.getD (Int.toNat 3) 0))
              rename Fr _ _ _ _ => F9
              (obtain ⟨m9, F8⟩ := fr_any F9)
              rename News _ _ _ _ => N9
              (replace N9 := news_drop4 N9)
              rename Obj.data _ = Data.cell (some (Value.int (2 + q8) _)) => hc1o
              rename Obj.data _ = Data.cell (some (Value.int (1 + qp) _)) => hc2o
              rename Obj.data _ = Data.cell (some (Value.str (Txt.item (Str.ofString "abcdefghijklm") _) _)) => hc3o
              rename Obj.data _ = Data.cell (some (Value.str (Txt.item (Str.ofString "nopqrstuvwxyz") _) _)) => hc4o
              (obtain ⟨n, hn⟩ : ∃ n : Nat, 2 + q8 = (n : Int) := ⟨(2 + q8).toNat, by omega⟩)
              (obtain ⟨p, hp⟩ : ∃ p : Nat, 1 + qp = (p : Int) := ⟨(1 + qp).toNat, by omega⟩)
              (have hn2 : 2 ≤ n := by omega)
              (have hn9 : n ≤ 9 := by omega)
              (have hp1 : 1 ≤ p := by omega)
              (have hpn : p + 1 ≤ n := by omega)
              (obtain ⟨t1, hc1⟩ := cell_int hc1o hn)
              (obtain ⟨t2, hc2⟩ := cell_int hc2o hp)
              (obtain ⟨t3, hc3⟩ := cell_str hc3o elo)
              (obtain ⟨t4, hc4⟩ := cell_str hc4o ehi)
              clear hqp hq8 hn hp elo ehi hc1o hc2o hc3o hc4o
              clear F9
              rename Fr _ _ _ _ => F9
              repeat (first | (k_unfold; (try dsimp only)) | ((fail_if_success (with_reducible show wpAny _ _ (eval (Expr.ListComp _ _ _ _) _) _ _ _)); walk1))
              k_dflt (refine LCg.ListComp_U (F₀ := by k_asm) (by with_unfolding_all rfl) (by decide) (by rfl) (by decide) (by rfl) ?_)
              repeat (first | (k_unfold; (try dsimp only)) | ((with_reducible show wpAny _ _ _ _ _ _); walk1))
              k_dflt (refine LCg.CompSrc.range (n := n) (by rfl) (by k_asm) (by k_asm) (by assumption) (by exact small_one (by omega) (by omega) (by omega) (by omega)) (by exact rangeSize_nat _ _) (by rw [PySem.sizeLine_eq]; omega) ?_)
              intro g1
              refine' kct_range (lineL n p lo hi) (fun k' t' I' oI' C' oC' D' m' ys' h' tk' E' hlo' hhi' hC' hx' F' N' off' ne' mk' => ?_) ?_
              focus (
                have off2 := off'
                simp only [LCg.Off3, and_true] at off'
                repeat' (first | (k_unfold; (try dsimp only)) | ((with_reducible show wpAny _ _ _ _ _ _); walk1) | ((with_reducible show ite _ _ _); walk1))
                all_goals exact LCg.CompEnd.intro (by assumption) (by assumption) _ (fun p hp => hp) off2 trivial (by first | exact lineL_pos (by assumption) | exact lineL_neg (by assumption)))
              unfold KPfDone
              intro ys hys hlen D h2 tk2 F2 N2 O2
              try dsimp only
              repeat (first | (k_unfold; (try dsimp only)) | ((fail_if_success (with_reducible show wpAny _ _ (call (Value.builtin "str.join") _) _ _ _)); walk1))
              with_unfolding_all refine' KT.join_1 (g := lineL n p lo hi) (l := rangeKs 0 n) (News.isList N2 (.head _)) hys (fun a _ => lineL_one _ _ _ _ a) (by omega) ?_
              intro t5 k5 e5
              (have eX := join_line (lo := lo) (hi := hi) hpn)
              rw [hlen] at e5
              generalize Txt.join (Str.ofString "") ((rangeKs 0 n).map (lineL n p lo hi)) = X at *
              (replace N2 := news_drop1 N2)
              clear hys hlen O2
              try dsimp only
              repeat (first | (k_unfold; (try dsimp only)) | ((fail_if_success (with_reducible show wpAny _ _ (exec (Stmt.Assign [Expr.Name (Str.ofString "told") _] _ _) _) _ _ _)); walk1))
              rename Obj.data _ = Data.cell (some (Value.str X _)) => hc5
              repeat (first | (k_unfold; (try dsimp only)) | ((fail_if_success (with_reducible show wpAny _ _ (call (Value.ref _) _) _ _ _)); walk1))
              k_dflt (refine' Ct.use (got w X t5 _ (by omega) (by omega)) ?k1 ?k2 ?k3 ?k4 ?k5 ?kK ?kd ?ku ?_; (case k2 => k_asm); (case k1 => k_asm); (case k3 => k_asm); (case k4 => k_asm); (case k5 => k_asm); (case kK => exact rfl); (case kd => ktr_room); (case ku => ktr_units))
              rintro r9 tl9 h9 tk9 F3 N3 lt3 ⟨a1, vs1, e1, rfl, rfl, hI1⟩
              simp only [List.cons_append, List.nil_append] at N3
              (have la1 := lt3 _ (.head _) _ (.head _))
              clear lt3
              dsimp only at la1
              try dsimp only
              repeat (first | (k_unfold; (try dsimp only)) | ((fail_if_success (with_reducible show wpAny _ _ (call (Value.ref _) _) _ _ _)); walk1))
              (have eY : (Txt.slice X (some 1) none).cps.toList = (lineC n p lo hi).drop 1 := by rw [txt_from (by decide) (by omega), eX]; rfl)
              (have lY := len_of_cps eY)
              rw [List.length_drop, lineC_length] at lY
              generalize Txt.slice X (some 1) none = Y at *
              rename Fr _ _ _ _ => F4
              rename News _ _ _ _ => N4
              k_dflt (refine' Ct.use (got w Y _ _ (by omega) (by omega)) ?k1 ?k2 ?k3 ?k4 ?k5 ?kK ?kd ?ku ?_; (case k2 => exact F4); (case k1 => k_asm); (case k3 => k_asm); (case k4 => exact N4); (case k5 => k_asm); (case kK => exact rfl); (case kd => ktr_room); (case ku => ktr_units))
              rintro r9 tl9 h9 tk9 F3 N3 lt3 ⟨a2, vs2, e2, rfl, rfl, hI2⟩
              simp only [List.cons_append, List.nil_append] at N3
              (have la2 := lt3 (a1, listOf vs1.toArray e1) (by simp) _ (.head _))
              clear lt3 F4 N4
              dsimp only at la2
              try dsimp only
              rw [eX, e5] at hI1
              rw [eY, lY] at hI2
              rw [tab1 (by omega)] at hI1
              rw [tab2 (by omega)] at hI2
              (obtain ⟨R, hR, PL1, PL2⟩ := pl_tab hn2 hn9 hp1 hpn)
              repeat (first | (k_unfold; (try dsimp only)) | ((fail_if_success (with_reducible show wpAny _ _ (call (Value.ref _) _) _ _ _)); walk1))
              rename Fr _ _ _ _ => F4
              rename News _ _ _ _ => N4
              k_dflt (refine' Ct.use (ltab w (p : Int) ((n : Int) - (p : Int)) (n : Int) t2 _ t1 _ (by omega) (by omega) R hR) ?k1 ?k2 ?k3 ?k4 ?k5 ?kK ?kd ?ku ?_; (case k2 => exact F4); (case k1 => k_asm); (case k3 => k_asm); (case k4 => exact N4); (case k5 => k_asm); (case kK => exact rfl); (case kd => ktr_room); (case ku => ktr_units))
              rintro r9 tl9 h9 tk9 F3 N3 lt3 ⟨b0, b1, b2, us1, us2, f0, f1, f2, rfl, rfl, hJ1, hJ2⟩
              rw [Int.toNat_natCast, PL1] at hJ1
              rw [Int.toNat_natCast, PL2] at hJ2
              clear hR PL1 PL2 R
              (have N5 := news_left N3)
              simp only [List.cons_append, List.nil_append] at N3
              clear F4 N4
              try dsimp only
              (obtain ⟨r, bz, P3, P4, P5, PB, PO⟩ := pl_ord hn2 hn9 hp1 hpn)
              (have hl1 := T1_length n p)
              (have hl2 := T2_length n p)
              generalize T1 n p = TT1 at hI1 hJ1 P3 hl1
              generalize T2 n p = TT2 at hI2 hJ2 PB hl2
              k_dflt (refine ne_pair N3 (by k_mem) (by k_mem) (by k_mem) hI1 hI2 (by k_mem) (by k_mem) (by k_mem) hJ1 hJ2 (by first | units_room | exact Nat.le_of_ble_eq_true rfl) ?_)
              clear lt3 N3
              (replace la1 := ltN la1)
              (replace la2 := ltN la2)
              rename Fr _ _ _ _ => F4
              rename News _ _ _ _ => N4
              repeat (first | (k_unfold; (try dsimp only)) | ((fail_if_success (with_reducible show wpAny _ _ (subscriptTail _ _ _ _) _ _ _)); (with_reducible show wpAny _ _ _ _ _ _); walk1) | ((with_reducible show ite _ _ _); walk1))
              (with_unfolding_all refine' item_litK (vs := [Value.ref a1, Value.ref a2]) (News.isList (by assumption) (.head _)) (by decide) (by decide) rfl ?_ (by with_unfolding_all rfl))
              repeat (first | (k_unfold; (try dsimp only)) | ((fail_if_success (with_reducible show wpAny _ _ (subscriptTail _ _ _ _) _ _ _)); (with_reducible show wpAny _ _ _ _ _ _); walk1))
              rename News _ _ _ _ => N4
              (with_unfolding_all refine' item_last (v := (n : Int) - (r : Int)) N4 (by k_mem) hI1 (by omega) (by rw [hl1]; exact P3) rfl ?_ (by with_unfolding_all rfl))
              intro t6
              refine sub_to (z := (r : Int)) (by omega) ?_
              repeat (first | (k_unfold; (try dsimp only)) | ((fail_if_success (with_reducible show wpAny _ _ (subscriptTail _ _ _ _) _ _ _)); (with_reducible show wpAny _ _ _ _ _ _); walk1))
              (with_unfolding_all refine' item_litK (vs := [Value.ref a1, Value.ref a2]) (News.isList (by assumption) (.head _)) (by decide) (by decide) rfl ?_ (by with_unfolding_all rfl))
              repeat (first | (k_unfold; (try dsimp only)) | ((fail_if_success (with_reducible show wpAny _ _ (subscriptTail _ _ _ _) _ _ _)); (with_reducible show wpAny _ _ _ _ _ _); walk1))
              rename News _ _ _ _ => N4
              (with_unfolding_all refine' item_ints N4 (by k_mem) hI2 (by omega) (by omega) (by omega) ?_ (by with_unfolding_all rfl))
              intro t7
              (have e7 : ((r : Int) - 2).toNat = r - 2 := by omega)
              rw [e7]
              refine sub_to (z := bz) PB ?_
              repeat (first | (k_unfold; (try dsimp only)) | ((fail_if_success (with_reducible show wpAny _ _ (exec (Stmt.Assign [Expr.Name (Str.ofString "order") _] _ _) _) _ _ _)); (with_reducible show wpAny _ _ _ _ _ _); walk1))
              rename Obj.data _ = Data.cell (some (Value.int (r : Int) _)) => hc6o
              rename Obj.data _ = Data.cell (some (Value.int bz _)) => hc7o
              (obtain ⟨t8, hc6⟩ := cell_int hc6o rfl)
              (obtain ⟨t9, hc7⟩ := cell_int hc7o rfl)
              clear hc6o hc7o
              rename Fr _ _ _ _ => F4
              rename News _ _ _ _ => N4
              (obtain ⟨m10, F5⟩ := fr_any F4)
              (have N5 := news_take 8 (news_drop1 N4))
              dsimp only [List.take] at N5
              clear F4 N4 hI1 hI2 PB P3 hl1 hl2 la1 la2 e7 hJ1 TT1
              (have hnr : n / r ≤ 20 := Nat.le_trans (Nat.div_le_self n r) (by omega))
              (have hr20 : r ≤ 20 := by omega)
              k_dflt (refine order_assign (n1 := r) (n2 := n / r) (fun k a => (-k * bz).fmod (r : Int) + a * (r : Int)) F5 N5 (by rfl) (by rfl) (by with_unfolding_all rfl) (by with_unfolding_all rfl) (by decide) (by rfl) (by decide) (by rfl) (by rfl) (by decide) (by rfl) (by rfl) hr20 hnr ?hi1 ?hi2 ?hel ?hdn)
              case hi1 => (
                repeat (first | (k_unfold; (try dsimp only)) | ((with_reducible show wpAny _ _ _ _ _ _); walk1))
                exact ⟨_, _, _, _, _, _, rfl, rfl, by assumption, by assumption, by assumption⟩)
              case hi2 => (
                intro C k t m₃ oC h tk E' hk0 hk1 hoC hmk FF NN
                repeat (first | (k_unfold; (try dsimp only)) | ((with_reducible show wpAny _ _ _ _ _ _); walk1))
                rename IsRange _ _ _ _ _ _ _ _ => R9
                rw [fdiv_nat] at R9
                exact ⟨_, _, _, _, _, _, rfl, rfl, by assumption, R9⟩)
              case hel => (
                intro C k a t t' m₃ oC h tk E' hk0 hk1 ha0 ha1 hoC hmk hma FF NN
                repeat (first | (k_unfold; (try dsimp only)) | ((with_reducible show wpAny _ _ _ _ _ _); walk1))
                exact ⟨_, _, rfl, rfl⟩)
              clear F5 N5
              intro D6 h6 tk6 ys6 F6 N6 O6 hi6
              rw [ord_eq, ← PO] at hi6
              clear PO
              try dsimp only
              repeat (first | (k_unfold; (try dsimp only)) | ((fail_if_success (with_reducible show wpAny _ _ (exec (Stmt.Assign [Expr.Name (Str.ofString "turns") _] _ _) _) _ _ _)); walk1))
              (have o6 := neN (O6 _ (.head _)))
              dsimp only at o6
              clear O6
              repeat (first | (k_unfold; (try dsimp only)) | ((fail_if_success (with_reducible show wpAny _ _ (eval (Expr.ListComp _ _ _ _) _) _ _ _)); walk1))
              k_dflt (refine LCg.ListComp_U (F₀ := by k_asm) (by with_unfolding_all rfl) (by decide) (by rfl) (by decide) (by rfl) ?_)
              repeat (first | (k_unfold; (try dsimp only)) | ((with_reducible show wpAny _ _ _ _ _ _); walk1))
              k_dflt (refine LCg.CompSrc.range (n := n) (by rfl) (by k_asm) (by k_asm) (by assumption) (by exact small_one (by omega) (by omega) (by omega) (by omega)) (by exact rangeSize_nat _ _) (by rw [PySem.sizeLine_eq]; omega) ?_)
              intro g1
              refine' kct_range (turnS X) (fun k' t' I' oI' C' oC' D' m' ys' h' tk' E' hlo' hhi' hC' hx' F' N' off' ne' mk' => ?_) ?_
              focus (
                have off2 := off'
                simp only [LCg.Off3, and_true] at off'
                repeat' (first | (k_unfold; (try dsimp only)) | ((with_reducible show wpAny _ _ _ _ _ _); walk1) | ((with_reducible show ite _ _ _); walk1))
                exact LCg.CompEnd.intro (by assumption) (by assumption) _ (fun p hp => hp) off2 trivial ⟨rfl, _, rfl⟩)
              unfold KPfDone
              intro ys hys hlen D7 h7 tk7 F7 N7 O7
              (have hS7 := CarriedAll.strsOf hys)
              (have o7 := neN O7.2.1)
              dsimp only at o7
              clear hys hlen O7
              try dsimp only
              repeat (first | (k_unfold; (try dsimp only)) | ((fail_if_success (with_reducible show wpAny _ _ (exec (Stmt.If _ _ _ _) _) _ _ _)); (with_reducible show wpAny _ _ _ _ _ _); walk1))
              repeat (first | (k_unfold; (try dsimp only)) | ((fail_if_success (with_reducible show wpAny _ _ (call (Value.ref _) _) _ _ _)); (with_reducible show wpAny _ _ _ _ _ _); walk1) | ((with_reducible show And _ _); walk1))
              rename Fr _ _ _ _ => F8
              rename News _ _ _ _ => N8
              k_dflt (refine' CtS.use (lownil w _ _ (.head _)) ?k1 ?k2 ?k3 ?k4 ?k5 ?kX ?kT ?kK ?kd ?ku ?_; (case k2 => exact F8); (case k4 => exact N8); (case k1 => k_asm); (case k3 => k_asm); (case k5 => k_asm); (case kX => k_asm); (case kT => k_asm); (case kK => exact rfl); (case kd => ktr_room); (case ku => ktr_units))
              rintro r8 h8 tk8 F9 N9 ⟨t8, rfl⟩
              clear F8 N8
              repeat (first | (k_unfold; (try dsimp only)) | ((fail_if_success (with_reducible show wpAny _ _ (call (Value.ref _) _) _ _ _)); (with_reducible show wpAny _ _ _ _ _ _); walk1) | ((with_reducible show And _ _); walk1) | ((with_reducible show ite _ _ _); walk1))
              rename Fr _ _ _ _ => F8
              rename News _ _ _ _ => N8
              k_dflt (refine' CtS.use (highnil w _ _ (.head _)) ?k1 ?k2 ?k3 ?k4 ?k5 ?kX ?kT ?kK ?kd ?ku ?_; (case k2 => exact F8); (case k4 => exact N8); (case k1 => k_asm); (case k3 => k_asm); (case k5 => k_asm); (case kX => k_asm); (case kT => k_asm); (case kK => exact rfl); (case kd => ktr_room); (case ku => ktr_units))
              rintro r9 h9' tk9' F9 N9 ⟨t9', rfl⟩
              clear F8 N8
              repeat (first | (k_unfold; (try dsimp only)) | ((fail_if_success (with_reducible show wpAny _ _ (exec (Stmt.For _ _ _ _ _) _) _ _ _)); (with_reducible show wpAny _ _ _ _ _ _); walk1) | ((with_reducible show And _ _); walk1) | ((with_reducible show ite _ _ _); walk1))
              rename Fr _ _ _ _ => F8
              rename News _ _ _ _ => N8
              (replace N8 := news_drop1 (news_drop1 N8))
              rename IntsAre _ (ordZ n p) => hi6
              repeat (first | (k_unfold; (try dsimp only)) | ((fail_if_success (with_reducible show wpAny _ _ (pyIter (Value.ref _)) _ _ _)); (with_reducible show wpAny _ _ _ _ _ _); walk1))
              rename Fr _ _ _ _ => F7
              rename News _ _ _ _ => N7
              rename IsRange _ _ _ _ _ _ _ _ => R7
              with_unfolding_all refine' kst_range (σ := Unit) (n := n) (fun _ => _) (fun _ => []) (fun _ => True) [Str.ofString "end", Str.ofString "handed"] (fun _ _ => True) () rfl R7 ?r1 ?r2 F7 N7 trivial (List.forall_mem_nil _) trivial ?gt ?gd
              case r1 => exact small_one (by omega) (by omega) (by omega) (by omega)
              case r2 => exact rangeSize_nat _ _
              case gt => (
                clear F7 N7 R7
                rintro ⟨⟩ pre kB tB uB hB tkB own kEq kLt kOff - - kFr kNews
                try k_fold
                simp only [List.cons_append, List.nil_append] at kNews
                repeat (first | (k_unfold; (try dsimp only)) | ((fail_if_success (with_reducible show wpAny _ _ (pyIter (Value.ref _)) _ _ _)); (with_reducible show wpAny _ _ _ _ _ _); walk1))
                rename Fr _ _ _ _ => F7
                rename News _ _ _ _ => N7
                rename IsRange _ _ _ _ _ _ _ _ => R7
                have hkB0 : 0 ≤ kB := by omega
                have hkBn : kB < (n : Int) := by omega
                with_unfolding_all refine' kst_range (σ := Unit) (n := ((n : Int) + 1 - (kB + 1)).toNat) (fun _ => _) (fun _ => []) (fun _ => True) [Str.ofString "handed"] (fun _ _ => True) () rfl R7 ?r3 ?r4 F7 N7 trivial (List.forall_mem_nil _) trivial ?gt2 ?gd2
                case r3 => exact small_one (by omega) (by omega) (by omega) (by omega)
                case r4 => exact rangeSize_nat _ _
                case gt2 => (
                  clear F7 N7 R7
                  rintro ⟨⟩ pre2 kE tE uE hE tkE own2 kEq2 kLt2 kOff2 - - kFr2 kNews2
                  try k_fold
                  simp only [List.cons_append, List.nil_append] at kNews2
                  have hkE0 : kB + 1 ≤ kE := by omega
                  have hkEn : kE ≤ (n : Int) := by omega
                  rename IntsAre _ (ordZ n p) => hi6
                  rename StrsAre _ _ => hS7
                  (obtain ⟨-, -, -, -, -, hol, hob, -⟩ := pl_all hn2 hn9 hp1 hpn)
                  generalize hOO : ordZ n p = OO at hi6 hol hob
                  repeat (first | (k_unfold; (try dsimp only)) | ((fail_if_success (with_reducible show wpAny _ _ (eval (Expr.ListComp _ _ _ _) _) _ _ _)); (with_reducible show wpAny _ _ _ _ _ _); walk1))
                  k_dflt (refine LCg.ListComp_U (F₀ := by k_asm) (by with_unfolding_all rfl) (by decide) (by rfl) (by decide) (by rfl) ?_)
                  repeat (first | (k_unfold; (try dsimp only)) | ((with_reducible show wpAny _ _ _ _ _ _); walk1))
                  rename_i Dq vq nq cq hq Fq Nq iq eq pq oq bq p0q l1q
                  clear bq p0q oq
                  (have hqb : ∀ i ∈ nq, 0 ≤ i ∧ i < (n : Int) := fun i hi => hob i (List.mem_of_mem_drop (List.mem_of_mem_take (pq.mem_iff.mp hi))))
                  (have hql : nq.length ≤ n := by rw [eq, List.length_take, List.length_drop]; omega)
                  (have iql := iq.length)
                  k_dflt (refine LCg.CompSrc.ledger (by rfl) Fq Nq (.head _) (by rw [List.size_toArray, PySem.sizeLine_eq]; omega) ?_)
                  intro g1
                  refine' kct_list (turnS X) iq (fun k' t' I' oI' C' oC' D' m' ys' h' tk' E' hk' hC' hx' F' N' off' ne' mk' => ?_) ?_
                  focus (
                    have off2 := off'
                    simp only [LCg.Off3] at off'
                    have hkb := hqb k' hk'
                    repeat' (first | (k_unfold; (try dsimp only)) | ((fail_if_success (with_reducible show wpAny _ _ (subscriptTail _ _ _ _) _ _ _)); (with_reducible show wpAny _ _ _ _ _ _); walk1) | ((with_reducible show ite _ _ _); walk1))
                    rename News _ _ _ _ => N9
                    rename Fr _ _ _ _ => F9
                    with_unfolding_all refine' item_strs (ws := (rangeKs 0 n).map (turnS X)) N9 (by k_mem) hS7 hkb.1 (by rw [List.length_map, rangeKs_length]; exact hkb.2) (by rw [List.length_map, rangeKs_length]; omega) ?_ (by with_unfolding_all rfl)
                    intro y9 t9 hy9
                    exact LCg.CompEnd.intro F9 N9 _ (fun p hp => hp) off2 (.inr ⟨_, .head _, rfl, _, rfl⟩) (turn_el hkb.1 hkb.2 hy9))
                  unfold KPfDone
                  intro ys8 hys8 hlen8 D8 h8 tk8 F8 N8 O8
                  (have hS8 := CarriedAll.strsOf hys8)
                  clear hys8
                  try dsimp only
                  repeat (first | (k_unfold; (try dsimp only)) | ((fail_if_success (with_reducible show wpAny _ _ (call _ _) _ _ _)); (with_reducible show wpAny _ _ _ _ _ _); walk1))
                  walk1
                  rename News _ _ _ _ => Nt
                  rename Fr _ _ _ _ => Ft
                  (have hnq : 0 < nq.length := by rw [eq, List.length_take, List.length_drop]; omega)
                  repeat (first | (k_unfold; (try dsimp only)) | ((fail_if_success (with_reducible show wpAny _ _ (call (Value.ref _) _) _ _ _)); (with_reducible show wpAny _ _ _ _ _ _); walk1) | ((with_reducible show And _ _); walk1))
                  (have hml : nq.length = kE.toNat - kB.toNat := by rw [eq, List.length_take, List.length_drop]; omega)
                  (have hmlI : (nq.length : Int) = kE - kB := by omega)
                  (have hd1 := fdiv2_rng (a := kB + kE - 1) (by omega))
                  (have hd2 := fdiv2_rng (a := kB + kE) (by omega))
                  (have hlh : lo < hi := by omega)
                  rename News _ _ _ _ => Nt
                  rename Fr _ _ _ _ => Ft
                  k_dflt (refine' Ct.use (lawlow w _ { cls := .type "tuple", data := .seq ys8.toArray } ys8 0 (nq.map (turnS X)) _ (.head _) (.inr rfl) rfl hS8 (by rw [List.length_map]; omega) (by rw [List.length_map]; omega)) ?k1 ?k2 ?k3 ?k4 ?k5 ?kK ?kd ?ku ?_; (case k2 => exact Ft); (case k4 => exact Nt); (case k1 => k_asm); (case k3 => k_asm); (case k5 => k_asm); (case kK => exact rfl); (case kd => ktr_room); (case ku => ktr_units))
                  rintro r10 tl10 h10 tk10 F10 N10 - ⟨rfl, y10, t10, ss10, rfl, hp10, hs10, hy10⟩
                  clear Ft Nt
                  rw [List.append_nil] at N10
                  rw [List.length_map] at hy10
                  (have ey10 := med_at hn2 hn9 hp1 hpn hlh e5 eX hOO pq hp10 hs10 hy10)
                  rw [low_idx (by omega) (by omega) hmlI] at ey10
                  try dsimp only
                  repeat (first | (k_unfold; (try dsimp only)) | ((fail_if_success (with_reducible show wpAny _ _ (subscriptTail _ _ _ _) _ _ _)); (with_reducible show wpAny _ _ _ _ _ _); walk1))
                  rename News _ _ _ _ => Nt
                  rename IntsAre _ OO => hi6
                  (with_unfolding_all refine' item_ints Nt (by k_mem) hi6 hd1.1 (by omega) (by omega) ?_ (by with_unfolding_all rfl))
                  intro qaa
                  (have qam : OO.getD ((kB + kE - 1).fdiv 2).toNat 0 ∈ OO := getD_in (by omega))
                  (have qab := hob _ qam)
                  repeat (first | (k_unfold; (try dsimp only)) | ((fail_if_success (with_reducible show wpAny _ _ (subscriptTail _ _ _ _) _ _ _)); (with_reducible show wpAny _ _ _ _ _ _); walk1))
                  rename News _ _ _ _ => Nt
                  rename StrsAre _ (List.map (turnS X) (rangeKs 0 n)) => hS7
                  (with_unfolding_all refine' item_strs (ws := (rangeKs 0 n).map (turnS X)) Nt (by k_mem) hS7 qab.1 (by rw [List.length_map, rangeKs_length]; exact qab.2) (by rw [List.length_map, rangeKs_length]; omega) ?_ (by with_unfolding_all rfl))
                  intro qay qat qah
                  refine ne_same (ey10.trans (turn_item qab.1 qab.2 qah).symm) ?_
                  repeat (first | (k_unfold; (try dsimp only)) | ((fail_if_success (with_reducible show wpAny _ _ (call (Value.ref _) _) _ _ _)); (with_reducible show wpAny _ _ _ _ _ _); walk1) | ((with_reducible show And _ _); walk1) | ((with_reducible show ite _ _ _); walk1))
                  rename News _ _ _ _ => Nt
                  rename Fr _ _ _ _ => Ft
                  rename StrsAre _ (List.map (turnS X) nq) => hS8
                  k_dflt (refine' Ct.use (lawhigh w _ { cls := .type "tuple", data := .seq ys8.toArray } ys8 0 (nq.map (turnS X)) _ (.head _) (.inr rfl) rfl hS8 (by rw [List.length_map]; omega) (by rw [List.length_map]; omega)) ?k1 ?k2 ?k3 ?k4 ?k5 ?kK ?kd ?ku ?_; (case k2 => exact Ft); (case k4 => exact Nt); (case k1 => k_asm); (case k3 => k_asm); (case k5 => k_asm); (case kK => exact rfl); (case kd => ktr_room); (case ku => ktr_units))
                  rintro r11 tl11 h11 tk11 F11 N11 - ⟨rfl, y11, t11, ss11, rfl, hp11, hs11, hy11⟩
                  clear Ft Nt
                  rw [List.append_nil] at N11
                  rw [List.length_map] at hy11
                  (have ey11 := med_at hn2 hn9 hp1 hpn hlh e5 eX hOO pq hp11 hs11 hy11)
                  rw [high_idx (by omega) (by omega) hmlI] at ey11
                  try dsimp only
                  repeat (first | (k_unfold; (try dsimp only)) | ((fail_if_success (with_reducible show wpAny _ _ (subscriptTail _ _ _ _) _ _ _)); (with_reducible show wpAny _ _ _ _ _ _); walk1))
                  rename News _ _ _ _ => Nt
                  rename IntsAre _ OO => hi6
                  (with_unfolding_all refine' item_ints Nt (by k_mem) hi6 hd2.1 (by omega) (by omega) ?_ (by with_unfolding_all rfl))
                  intro qba
                  (have qbm : OO.getD ((kB + kE).fdiv 2).toNat 0 ∈ OO := getD_in (by omega))
                  (have qbb := hob _ qbm)
                  repeat (first | (k_unfold; (try dsimp only)) | ((fail_if_success (with_reducible show wpAny _ _ (subscriptTail _ _ _ _) _ _ _)); (with_reducible show wpAny _ _ _ _ _ _); walk1))
                  rename News _ _ _ _ => Nt
                  rename StrsAre _ (List.map (turnS X) (rangeKs 0 n)) => hS7
                  (with_unfolding_all refine' item_strs (ws := (rangeKs 0 n).map (turnS X)) Nt (by k_mem) hS7 qbb.1 (by rw [List.length_map, rangeKs_length]; exact qbb.2) (by rw [List.length_map, rangeKs_length]; omega) ?_ (by with_unfolding_all rfl))
                  intro qby qbt qbh
                  refine ne_same (ey11.trans (turn_item qbb.1 qbb.2 qbh).symm) ?_
                  repeat' (first | (k_unfold; (try dsimp only)) | ((with_reducible show wpAny _ _ _ _ _ _); walk1) | ((with_reducible show And _ _); walk1) | ((with_reducible show ite _ _ _); walk1))
                  dsimp only [InvPostN]
                  refine kst_end () (by assumption) (by assumption) (by intro p hp; exact .tail _ (.tail _ (.tail _ (.tail _ (List.mem_append_left own2 hp))))) (by intro p hp; (repeat (first | exact List.mem_append_right own hp | refine List.Mem.tail _ ?_))) (by rfl) trivial (List.forall_mem_nil _) ?_ trivial
                  intro z z1 _ z3
                  (have z4 : z ≠ Str.ofString "handed" := by simpa using z3)
                  simp [kstB, z1, z4])
                clear F7 N7 R7
                rintro ⟨⟩ uE hE tkE - - kFr2 kNews2
                try dsimp only
                repeat' (first | (k_unfold; (try dsimp only)) | ((with_reducible show wpAny _ _ _ _ _ _); walk1) | ((with_reducible show ite _ _ _); walk1))
                dsimp only [InvPostN]
                refine kst_end () (by assumption) (by assumption) (by intro p hp; exact List.mem_append_left own hp) (by intro p hp; k_ownIn) (by rfl) trivial (List.forall_mem_nil _) ?_ trivial
                intro z z1 _ z3
                have z4 : z ≠ Str.ofString "end" ∧ z ≠ Str.ofString "handed" := by simpa using z3
                simp [kstB, z1, z4.1, z4.2])
              clear F7 N7 R7
              rintro ⟨⟩ uE hE tkE - - kFr2 kNews2
              try dsimp only
              repeat' (first | (k_unfold; (try dsimp only)) | ((with_reducible show wpAny _ _ _ _ _ _); walk1) | ((with_reducible show ite _ _ _); walk1))
              try dsimp only
              k_steps))
end Mine
theorem PySem.Challenge.cw_rs0026_01_holds : PySem.Challenge.rw_rs0026_01.Holds := by
  exact Mine.whole
