import PyProof.Rows.All
import Wide.All
import OpenK.AllK
import Wide.FinOn
import KE.KTryDeepN
import KE.KStateBytes
import KE.KStateWGiven
import PyProof.IsiH_list
import PySem.Challenge.RW_ko0015_01
set_option Elab.async false
set_option linter.all false
set_option compiler.extract_closed false

section
open PySem PySem.W PyProof.Rows PySem.Calls PySem.Spec
local macro_rules | `(tactic| walk_at $s:str) => `(tactic| k_extra $s)
local macro_rules | `(tactic| k_room) => `(tactic| k_extra "k_room")
local macro_rules | `(tactic| kst_facts) => `(tactic| k_extra "kst_facts")
section
open PySem PySem.W PyProof.Rows
namespace Mine
set_option maxRecDepth 100000 in
set_option maxHeartbeats 8000000 in
open_top hd for PySem.Challenge.rw_ko0015_01
end Mine
end

section
open PySem PySem.W PyProof.Rows PySem.Calls PySem.Spec
set_option pp.deepTerms false
namespace Mine
noncomputable section
noncomputable def b64v (c : Int) : Int :=
  if 65 ≤ c ∧ c ≤ 90 then c - 65 else if 97 ≤ c ∧ c ≤ 122 then c - 71 else if 48 ≤ c ∧ c ≤ 57 then c + 4 else if c = 43 then 62 else if c = 47 then 63 else 64
section
variable {c : Int}
theorem v1 (h : 65 ≤ c) (h' : c ≤ 90) : c - 65 = b64v c := by unfold b64v; rw [if_pos ⟨h, h'⟩]
theorem v2 (n : ¬ (65 ≤ c ∧ c ≤ 90)) (h : 97 ≤ c) (h' : c ≤ 122) : c - 71 = b64v c := by unfold b64v; rw [if_neg n, if_pos ⟨h, h'⟩]
theorem v3 (n : ¬ (65 ≤ c ∧ c ≤ 90)) (n' : ¬ (97 ≤ c ∧ c ≤ 122)) (h : 48 ≤ c) (h' : c ≤ 57) : c + 4 = b64v c := by unfold b64v; rw [if_neg n, if_neg n', if_pos ⟨h, h'⟩]
theorem v4 (n : ¬ (65 ≤ c ∧ c ≤ 90)) (n' : ¬ (97 ≤ c ∧ c ≤ 122)) (n'' : ¬ (48 ≤ c ∧ c ≤ 57)) (h : c = 43) : 62 = b64v c := by unfold b64v; rw [if_neg n, if_neg n', if_neg n'', if_pos h]
theorem v5 (n : ¬ (65 ≤ c ∧ c ≤ 90)) (n' : ¬ (97 ≤ c ∧ c ≤ 122)) (n'' : ¬ (48 ≤ c ∧ c ≤ 57)) (k : ¬ c = 43) (h : c = 47) : 63 = b64v c := by unfold b64v; rw [if_neg n, if_neg n', if_neg n'', if_neg k, if_pos h]
theorem v6 (n : ¬ (65 ≤ c ∧ c ≤ 90)) (n' : ¬ (97 ≤ c ∧ c ≤ 122)) (n'' : ¬ (48 ≤ c ∧ c ≤ 57)) (k : ¬ c = 43) (k' : ¬ c = 47) : 64 = b64v c := by unfold b64v; rw [if_neg n, if_neg n', if_neg n'', if_neg k, if_neg k']
end
abbrev tA (hd : Option Value) (dp un : Nat) (gd : Option (List Code)) (cn : Str) (cs : Scope) (L a : Addr) (ccd : Value) (cl : List (Str × Addr)) (outer : List Env) : Around := { handled := hd, depth := dp, frames := some (envX cn cs L a ccd cl :: outer), guards := gd, units := un }
section
variable {w : World} {p : Program} {loose : List Str} {mean : ExcName → Option Value} {mg mb : Str → Option Value} {hd : Option Value} {dp un : Nat} {gd : Option (List Code)} {cn : Str} {cs : Scope} {a : Addr} {ccd : Value} {cl : List (Str × Addr)} {outer : List Env} {A₀ : Around} {base h₀ : Heap} {L : Addr} {m : Str → Option Value} {news : List (Addr × Obj)} {s : Shared} {Q E : Value → Shared → Prop}
set_option maxRecDepth 100000 in
set_option maxHeartbeats 8000000 in
theorem b64_value (c : Int) (t : Tok) (B : Below A₀ base outer h₀) (F : Fr h₀ L s.heap m) (X : (Mine.hd.heap_39 w.params).In h₀) (N : News h₀ L s.heap news) (T : Top p loose mean mg mb h₀) (hk : cs.kind = .function) (hdp : dp + 1 < recursionLimit) (hun : un + 8 < cLine)
    (hret : ∀ t' h' tk', Fr h₀ L h' m → News h₀ L h' news → Q (.int (b64v c) t') { s with heap := h', toks := tk' }) :
    wpAny (model Challenge.rw_ko0015_01.row.prog w) (tA hd dp un gd cn cs L a ccd cl outer) (call (.ref 122) [.int c t]) Q E s := by
  w_top off
  k_with_none
  revert X; k_fill; intro X
  refine wpAny_call ?_
  k_dflt cell_enter
  k_steps
  all_goals exact cb_retI hret (by first | exact v1 (by assumption) (by assumption) | exact v2 (by first | exact fun h => absurd h.1 (by assumption) | exact fun h => absurd h.2 (by assumption) | exact fun h => absurd (Int.le_trans (by decide : (65 : Int) ≤ 97) h.1) (by assumption) | exact fun h => absurd (Int.le_trans h.2 (by decide : (57 : Int) ≤ 90)) (by assumption) | omega) (by assumption) (by assumption) | exact v3 (by first | exact fun h => absurd h.1 (by assumption) | exact fun h => absurd h.2 (by assumption) | exact fun h => absurd (Int.le_trans (by decide : (65 : Int) ≤ 97) h.1) (by assumption) | exact fun h => absurd (Int.le_trans h.2 (by decide : (57 : Int) ≤ 90)) (by assumption) | omega) (by first | exact fun h => absurd h.1 (by assumption) | exact fun h => absurd h.2 (by assumption) | exact fun h => absurd (Int.le_trans (by decide : (65 : Int) ≤ 97) h.1) (by assumption) | exact fun h => absurd (Int.le_trans h.2 (by decide : (57 : Int) ≤ 90)) (by assumption) | omega) (by assumption) (by assumption) | exact v4 (by first | exact fun h => absurd h.1 (by assumption) | exact fun h => absurd h.2 (by assumption) | exact fun h => absurd (Int.le_trans (by decide : (65 : Int) ≤ 97) h.1) (by assumption) | exact fun h => absurd (Int.le_trans h.2 (by decide : (57 : Int) ≤ 90)) (by assumption) | omega) (by first | exact fun h => absurd h.1 (by assumption) | exact fun h => absurd h.2 (by assumption) | exact fun h => absurd (Int.le_trans (by decide : (65 : Int) ≤ 97) h.1) (by assumption) | exact fun h => absurd (Int.le_trans h.2 (by decide : (57 : Int) ≤ 90)) (by assumption) | omega) (by first | exact fun h => absurd h.1 (by assumption) | exact fun h => absurd h.2 (by assumption) | exact fun h => absurd (Int.le_trans (by decide : (65 : Int) ≤ 97) h.1) (by assumption) | exact fun h => absurd (Int.le_trans h.2 (by decide : (57 : Int) ≤ 90)) (by assumption) | omega) (by assumption) | exact v5 (by first | exact fun h => absurd h.1 (by assumption) | exact fun h => absurd h.2 (by assumption) | exact fun h => absurd (Int.le_trans (by decide : (65 : Int) ≤ 97) h.1) (by assumption) | exact fun h => absurd (Int.le_trans h.2 (by decide : (57 : Int) ≤ 90)) (by assumption) | omega) (by first | exact fun h => absurd h.1 (by assumption) | exact fun h => absurd h.2 (by assumption) | exact fun h => absurd (Int.le_trans (by decide : (65 : Int) ≤ 97) h.1) (by assumption) | exact fun h => absurd (Int.le_trans h.2 (by decide : (57 : Int) ≤ 90)) (by assumption) | omega) (by first | exact fun h => absurd h.1 (by assumption) | exact fun h => absurd h.2 (by assumption) | exact fun h => absurd (Int.le_trans (by decide : (65 : Int) ≤ 97) h.1) (by assumption) | exact fun h => absurd (Int.le_trans h.2 (by decide : (57 : Int) ≤ 90)) (by assumption) | omega) (by assumption) (by assumption) | exact v6 (by first | exact fun h => absurd h.1 (by assumption) | exact fun h => absurd h.2 (by assumption) | exact fun h => absurd (Int.le_trans (by decide : (65 : Int) ≤ 97) h.1) (by assumption) | exact fun h => absurd (Int.le_trans h.2 (by decide : (57 : Int) ≤ 90)) (by assumption) | omega) (by first | exact fun h => absurd h.1 (by assumption) | exact fun h => absurd h.2 (by assumption) | exact fun h => absurd (Int.le_trans (by decide : (65 : Int) ≤ 97) h.1) (by assumption) | exact fun h => absurd (Int.le_trans h.2 (by decide : (57 : Int) ≤ 90)) (by assumption) | omega) (by first | exact fun h => absurd h.1 (by assumption) | exact fun h => absurd h.2 (by assumption) | exact fun h => absurd (Int.le_trans (by decide : (65 : Int) ≤ 97) h.1) (by assumption) | exact fun h => absurd (Int.le_trans h.2 (by decide : (57 : Int) ≤ 90)) (by assumption) | omega) (by assumption) (by assumption) | (subst_vars; first | exact v4 (by decide) (by decide) (by decide) rfl | exact v5 (by decide) (by decide) (by decide) (by decide) rfl) | omega) (by assumption) (by assumption)
end
end
end Mine
end

section
open PySem PySem.W PyProof.Rows PySem.Calls PySem.Spec
set_option pp.deepTerms false
namespace Mine
noncomputable section
noncomputable def LL : List UInt8 := [65, 66, 67, 68, 69, 70, 71, 72, 73, 74, 75, 76, 77, 78, 79, 80, 81, 82, 83, 84, 85, 86, 87, 88, 89, 90, 97, 98, 99, 100, 101, 102, 103, 104, 105, 106, 107, 108, 109, 110, 111, 112, 113, 114, 115, 116, 117, 118, 119, 120, 121, 122, 48, 49, 50, 51, 52, 53, 54, 55, 56, 57, 43, 47]
noncomputable def LB : Array UInt8 := LL.toArray
noncomputable def isL (o : Int) : Bool := decide (b64v o < 64)
noncomputable def ltr (i : Int) : Int := ((LL.getD i.toNat 0).toNat : Int)
theorem b64v_lo (c : Int) : 0 ≤ b64v c := by unfold b64v; (repeat' split) <;> omega
theorem LB_contains_n : ∀ n : Fin 256, LB.contains n.val.toUInt8 = isL (n.val : Int) := by decide +kernel
theorem LB_contains {o : Int} (h0 : 0 ≤ o) (h1 : o < 256) : LB.contains o.toNat.toUInt8 = isL o := by
  have h := LB_contains_n ⟨o.toNat, by omega⟩
  rw [show ((⟨o.toNat, by omega⟩ : Fin 256).val : Int) = o from by show ((o.toNat : Nat) : Int) = o; omega] at h
  exact h
theorem LB_find_n : ∀ n : Fin 256, isL (n.val : Int) = true → Builtin.Bytes.find? LB #[n.val.toUInt8] 0 64 = some (b64v (n.val : Int)).toNat := by decide +kernel
theorem LB_find {o : Int} (h0 : 0 ≤ o) (h1 : o < 256) (h : isL o = true) : Builtin.Bytes.find? LB #[o.toNat.toUInt8] 0 64 = some (b64v o).toNat := by
  have e : ((⟨o.toNat, by omega⟩ : Fin 256).val : Int) = o := by show ((o.toNat : Nat) : Int) = o; omega
  have h := LB_find_n ⟨o.toNat, by omega⟩ (by rw [e]; exact h)
  rw [e] at h
  exact h
theorem ltr_n : ∀ n : Fin 64, b64v (ltr (n.val : Int)) = n.val ∧ 0 ≤ ltr (n.val : Int) ∧ ltr (n.val : Int) < 128 ∧ ltr (n.val : Int) ≠ 61 := by decide +kernel
theorem ltr_facts {i : Int} (h0 : 0 ≤ i) (h1 : i < 64) : b64v (ltr i) = i ∧ 0 ≤ ltr i ∧ ltr i < 128 ∧ ltr i ≠ 61 := by
  have h := ltr_n ⟨i.toNat, by omega⟩
  have e : ((⟨i.toNat, by omega⟩ : Fin 64).val : Int) = i := by show ((i.toNat : Nat) : Int) = i; omega
  rw [e] at h
  exact h
section
open Builtin
theorem asIndex_int (i : Int) (u : Tok) : asIndex (.int i u) = pure i := rfl
theorem gives_contains (b : Array UInt8) (t u : Tok) {i : Int} (h0 : 0 ≤ i) (h1 : i < 256) : Gives («bytes.__contains__» ⟨[.bytes b t, .int i u], []⟩) (.val (.bool (b.contains i.toNat.toUInt8))) := by
  refine .of_wp fun M A E s Q hq => ?_
  show wpAny M A (Bytes.containsIn "bytes.__contains__" (.bytes b t) (.int i u) >>= fun r => _) _ E s
  refine wpAny_bind ?_
  unfold Bytes.containsIn
  rw [asIndex_int]
  refine wpAny_bind (wpAny_attempt (wpAny_pure ?_))
  refine wpAny_bind (wpAny_of_eq KBy.buffer_eq ?_)
  have hc : (decide (i < 0) || decide (i ≥ 256)) = false := by
    rw [decide_eq_false (by omega), decide_eq_false (by omega)]; rfl
  show wpAny M A (if (decide (i < 0) || decide (i ≥ 256)) = true then _ else _) _ E s
  rw [hc]
  exact wpAny_pure (wpAny_pure ⟨_, rfl, hq⟩)
end
section
variable {prog : Program} {w : World} {A : Around} {E : Value → Shared → Prop} {s : Shared} {Q : Value → Shared → Prop}
theorem in_LB {o : Int} {t u : Tok} (h0 : 0 ≤ o) (h1 : o < 256) (h : Q (.bool (isL o)) s) : wpAny (model prog w) A (compareOp .In (.int o u) (.bytes LB t)) Q E s := by
  refine in_gives (typeIs_bytes s LB t) FB.slot_bytes_contains FB.entry_bytes_contains (FB.args_bytes_contains_2 _ _) (gives_contains LB t u h0 h1) ?_
  rw [LB_contains h0 h1]; exact h
theorem item_LB {value slice : PySem.Expr} {i : Int} {t ui : Tok} (h0 : 0 ≤ i) (h1 : i < 64) (h : Q (.int (ltr i) s.toks) { s with toks := s.toks + 1 })
    (hs : subscripted slice false (.bytes LB t) (.int i ui) = operate [.bytes LB t, .int i ui] (getItem (.bytes LB t) (.int i ui)) := by with_unfolding_all rfl)
    (ht : ∀ r, letTemporaryGo value (.bytes LB t) r = pure () := by intro _; with_unfolding_all rfl) : wpAny (model prog w) A (subscriptTail value slice (.bytes LB t) (.int i ui)) Q E s :=
  KBy.item_N (x := LL) (by decide) h0 h1 h hs ht
end
section
variable {w : World} {p : Program} {loose : List Str} {mean : ExcName → Option Value} {mg mb : Str → Option Value} {hd : Option Value} {dp un : Nat} {gd : Option (List Code)} {cn : Str} {cs : Scope} {a : Addr} {ccd : Value} {cl : List (Str × Addr)} {outer : List Env} {A₀ : Around} {base h₀ : Heap} {L : Addr} {m : Str → Option Value} {news : List (Addr × Obj)} {s : Shared} {Q E : Value → Shared → Prop}
theorem ret_bytes {Q : Value → Shared → Prop} {b c : Array UInt8} {t : Tok} {h' : Heap} {tk' : Nat} {s : Shared} (hret : ∀ t' h' tk', Fr h₀ L h' m → News h₀ L h' news → Q (.bytes b t') { s with heap := h', toks := tk' }) (e : c = b) (F : Fr h₀ L h' m) (N : News h₀ L h' news) : Q (.bytes c t) { s with heap := h', toks := tk' } := by
  subst e; exact hret t h' tk' F N
set_option maxRecDepth 100000 in
set_option maxHeartbeats 8000000 in
theorem law_letters (B : Below A₀ base outer h₀) (F : Fr h₀ L s.heap m) (X : (Mine.hd.heap_39 w.params).In h₀) (N : News h₀ L s.heap news) (T : Top p loose mean mg mb h₀) (hk : cs.kind = .function) (hdp : dp + 1 < recursionLimit) (hun : un + 8 < cLine)
    (hret : ∀ t' h' tk', Fr h₀ L h' m → News h₀ L h' news → Q (.bytes LB t') { s with heap := h', toks := tk' }) :
    wpAny (model Challenge.rw_ko0015_01.row.prog w) (tA hd dp un gd cn cs L a ccd cl outer) (call (.ref 152) []) Q E s := by
  w_top off
  k_with_none
  revert X; k_fill; intro X
  refine wpAny_call ?_
  k_dflt cell_enter
  k_steps
  all_goals exact ret_bytes hret rfl (by assumption) (by assumption)
end
end
end Mine
end

section
open PySem PySem.W PyProof.Rows PySem.Calls PySem.Spec
set_option pp.deepTerms false
set_option pp.deepTerms.threshold 4
namespace Mine
noncomputable section
structure Joining : Prop where
  mark :: (one : True)
theorem joining : Joining := ⟨trivial⟩
noncomputable def JoinV (g : Heap) (L : Addr) (m : Str → Option Value) (news : List (Addr × Obj)) (v : Tok → Value) (s : Shared) (r : Value) (s' : Shared) : Prop :=
  ∃ t h' tk', r = v t ∧ s' = { s with heap := h', toks := tk' } ∧ Fr g L h' m ∧ News g L h' news
theorem join_eval {M : Model} {A : Around} {t : Sem Value} {Q E : Value → Shared → Prop} {s : Shared} {g : Heap} {L : Addr} {m : Str → Option Value} {news : List (Addr × Obj)} (v : Tok → Value) {hh : Heap} (_F : Fr g L hh m) (_N : News g L hh news)
    (h : Joining → wpAny M A t (JoinV g L m news v s) E s) (k : ∀ t h' tk', Fr g L h' m → News g L h' news → Q (v t) { s with heap := h', toks := tk' }) : wpAny M A t Q E s :=
  wpAny_mono (h joining) (fun r s' ⟨t, h', tk', e1, e2, F, N⟩ => by subst e1; subst e2; exact k t h' tk' F N) fun _ _ x => x
theorem joinV_end {g : Heap} {L : Addr} {m m' : Str → Option Value} {news news' : List (Addr × Obj)} {v : Tok → Value} {s s' : Shared} {t : Tok} {h' : Heap} {tk' : Nat} {r : Value} (F : Fr g L h' m') (N : News g L h' news') (hm : m' = m) (hs : ∀ p ∈ news, p ∈ news')
    (e : r = v t) (e2 : s' = { s with heap := h', toks := tk' }) : JoinV g L m news v s r s' := ⟨t, h', tk', e, e2, hm ▸ F, fun p hp => N p (hs p hp)⟩
noncomputable def JoinF (g : Heap) (L : Addr) (m : Str → Option Value) (news : List (Addr × Obj)) (y : Str) (v : Tok → Value) (s : Shared) (fl : Flow) (s' : Shared) : Prop :=
  ∃ t h' tk', fl = .next ∧ s' = { s with heap := h', toks := tk' } ∧ Fr g L h' (fun z => if z = y then some (v t) else m z) ∧ News g L h' news
theorem join_exec {M : Model} {A : Around} {t : Sem Flow} {Q : Flow → Shared → Prop} {E : Value → Shared → Prop} {s : Shared} {g : Heap} {L : Addr} {m : Str → Option Value} {news : List (Addr × Obj)} (y : Str) (v : Tok → Value) {hh : Heap} (_F : Fr g L hh m) (_N : News g L hh news)
    (h : Joining → wpAny M A t (JoinF g L m news y v s) E s) (k : ∀ t h' tk', Fr g L h' (fun z => if z = y then some (v t) else m z) → News g L h' news → Q .next { s with heap := h', toks := tk' }) : wpAny M A t Q E s :=
  wpAny_mono (h joining) (fun r s' ⟨t, h', tk', e1, e2, F, N⟩ => by subst e1; subst e2; exact k t h' tk' F N) fun _ _ x => x
theorem map_over {m : Str → Option Value} {y : Str} {v u : Value} : (fun z => if z = y then some v else if z = y then some u else m z) = fun z => if z = y then some v else m z := by
  funext z; by_cases h : z = y <;> simp [h]
theorem map_same {m : Str → Option Value} {y : Str} {v : Value} (h : m y = some v) : (fun z => if z = y then some v else m z) = m := by
  funext z; by_cases e : z = y <;> simp [e, h]
theorem joinF_set {g : Heap} {L : Addr} {m : Str → Option Value} {news : List (Addr × Obj)} {y : Str} {v : Tok → Value} {s : Shared} {u : Value} {t : Tok} {h' : Heap} {tk' : Nat} (F : Fr g L h' (fun z => if z = y then some u else m z)) (N : News g L h' news)
    (e : u = v t) : JoinF g L m news y v s .next { s with heap := h', toks := tk' } := ⟨t, h', tk', rfl, rfl, by rw [← e]; exact F, N⟩
theorem joinF_stay {g : Heap} {L : Addr} {m : Str → Option Value} {news : List (Addr × Obj)} {y : Str} {v : Tok → Value} {s : Shared} {u : Value} {t : Tok} {h' : Heap} {tk' : Nat} (F : Fr g L h' m) (N : News g L h' news)
    (hy : m y = some u) (e : u = v t) : JoinF g L m news y v s .next { s with heap := h', toks := tk' } := ⟨t, h', tk', rfl, rfl, by rw [← e, map_same hy]; exact F, N⟩

noncomputable def modeV (ns : List Int) : Int := if ns = [] then 0 else (ns.headD 0).fmod 4
theorem modeV_nil {ns : List Int} (h : ns = []) : modeV ns = 0 := if_pos h
theorem modeV_cons {ns : List Int} (h : ¬ ns = []) : modeV ns = (ns.getD (0 : Int).toNat 0).fmod 4 := by
  unfold modeV; rw [if_neg h]; cases ns <;> rfl
noncomputable def oct1 (md x : Int) : Int := if x.fmod 4 = 1 ∧ md.fmod 2 = 1 then 61 else ltr ((x.fdiv 4).fmod 64)
noncomputable def oct2 (md x : Int) : Int := if x.fmod 4 = 2 ∧ md > 1 then (x.fdiv 4).fmod 256 else oct1 md x
noncomputable def rowStep (md : Int) (st : List Int × Int × Int) (x : Int) : List Int × Int × Int :=
  if oct2 md x = 61 then (st.1 ++ [oct2 md x], st.2.1, st.2.2 + 1)
  else if isL (oct2 md x) = true then (if st.2.1.fmod 4 > 1 ∧ st.2.1.fmod 4 + st.2.2 > 3 then st else (st.1 ++ [oct2 md x], st.2.1 + 1, 0))
  else (st.1 ++ [oct2 md x], st.2.1, st.2.2)
noncomputable def rowF (ns : List Int) : List Int × Int × Int := (ns.drop 1).foldl (rowStep (modeV ns)) ([], 0, 0)
theorem fmod_rng (x : Int) {k : Int} (h : 0 < k) : 0 ≤ x.fmod k ∧ x.fmod k < k := ⟨Int.fmod_nonneg_of_pos _ h, Int.fmod_lt_of_pos _ h⟩
theorem oct1_rng (md x : Int) : 0 ≤ oct1 md x ∧ oct1 md x < 256 := by
  unfold oct1
  have h := fmod_rng (x.fdiv 4) (k := 64) (by decide)
  have h2 := ltr_facts h.1 h.2
  split <;> omega
theorem oct2_rng (md x : Int) : 0 ≤ oct2 md x ∧ oct2 md x < 256 := by
  unfold oct2
  have h := fmod_rng (x.fdiv 4) (k := 256) (by decide)
  have h2 := oct1_rng md x
  split <;> omega
noncomputable def RowInv (md : Int) (pre row : List Int) (l e : Int) : Prop := (row, l, e) = List.foldl (rowStep md) ([], 0, 0) pre ∧ row.length ≤ pre.length ∧ ∀ n ∈ row, 0 ≤ n ∧ n < 256
theorem row_start {md : Int} : RowInv md [] [] 0 0 := ⟨rfl, Nat.le_refl _, fun _ h => nomatch h⟩
theorem row_turn {md n : Int} {pre row row' : List Int} {l e l' e' : Int} (h : RowInv md pre row l e) (hs : rowStep md (row, l, e) n = (row', l', e')) : RowInv md (pre ++ [n]) row' l' e' := by
  obtain ⟨h1, h2, h3⟩ := h
  refine ⟨?_, ?_, ?_⟩
  · rw [List.foldl_append, ← h1, List.foldl_cons, List.foldl_nil, hs]
  · have hr : row' = row ∨ row' = row ++ [oct2 md n] := by
      unfold rowStep at hs
      dsimp only at hs
      (repeat' split at hs) <;> injection hs with e1 e2 <;> first | exact .inl e1.symm | exact .inr e1.symm
    rcases hr with rfl | rfl <;> simp only [List.length_append, List.length_cons, List.length_nil] <;> omega
  · have hr : row' = row ∨ row' = row ++ [oct2 md n] := by
      unfold rowStep at hs
      dsimp only at hs
      (repeat' split at hs) <;> injection hs with e1 e2 <;> first | exact .inl e1.symm | exact .inr e1.symm
    rcases hr with rfl | rfl
    · exact h3
    · intro x hx
      rcases List.mem_append.mp hx with hx | hx
      · exact h3 x hx
      · rw [List.mem_singleton.mp hx]; exact oct2_rng md n
theorem row_and {md : Int} {pre row : List Int} {l e : Int} (h : RowInv md pre row l e) : RowInv md pre row l e ∧ row.length ≤ pre.length ∧ ∀ n ∈ row, 0 ≤ n ∧ n < 256 := ⟨h, h.2.1, h.2.2⟩
section
variable {md n : Int} {pre row : List Int} {l e : Int}
theorem row_61 (h : RowInv md pre row l e) (a : oct2 md n = 61) : RowInv md (pre ++ [n]) (row ++ [oct2 md n]) l (e + 1) := row_turn h (by unfold rowStep; rw [if_pos a])
theorem row_skip (h : RowInv md pre row l e) (a : oct2 md n ≠ 61) (b : isL (oct2 md n) = true) (c : 1 < l.fmod 4) (d : 3 < l.fmod 4 + e) : RowInv md (pre ++ [n]) row l e := row_turn h (by unfold rowStep; rw [if_neg a, if_pos b, if_pos ⟨c, d⟩])
theorem row_add1 (h : RowInv md pre row l e) (a : oct2 md n ≠ 61) (b : isL (oct2 md n) = true) (d : ¬ 3 < l.fmod 4 + e) : RowInv md (pre ++ [n]) (row ++ [oct2 md n]) (l + 1) 0 := row_turn h (by unfold rowStep; rw [if_neg a, if_pos b, if_neg (fun q => d q.2)])
theorem row_add2 (h : RowInv md pre row l e) (a : oct2 md n ≠ 61) (b : isL (oct2 md n) = true) (c : ¬ 1 < l.fmod 4) : RowInv md (pre ++ [n]) (row ++ [oct2 md n]) (l + 1) 0 := row_turn h (by unfold rowStep; rw [if_neg a, if_pos b, if_neg (fun q => c q.1)])
theorem row_oth (h : RowInv md pre row l e) (a : oct2 md n ≠ 61) (b : isL (oct2 md n) = false) : RowInv md (pre ++ [n]) (row ++ [oct2 md n]) l e := row_turn h (by unfold rowStep; rw [if_neg a, if_neg (by rw [b]; exact Bool.false_ne_true)])
end
theorem joinI_fin {g : Heap} {L : Addr} {m : Str → Option Value} {news news' : List (Addr × Obj)} {s : Shared} {t : Tok} {h' : Heap} {tk' : Nat} {k v : Int} (F : Fr g L h' m) (N : News g L h' news') (hs : ∀ p ∈ news, p ∈ news')
    (e : k = v) : JoinV g L m news (fun t => .int v t) s (.int k t) { s with heap := h', toks := tk' } := ⟨t, h', tk', by rw [e], rfl, F, fun p hp => N p (hs p hp)⟩
theorem joinFi_set {g : Heap} {L : Addr} {m : Str → Option Value} {news : List (Addr × Obj)} {y : Str} {s : Shared} {k v : Int} {t : Tok} {h' : Heap} {tk' : Nat} (F : Fr g L h' (fun z => if z = y then some (.int k t) else m z)) (N : News g L h' news)
    (e : k = v) : JoinF g L m news y (fun t => .int v t) s .next { s with heap := h', toks := tk' } := ⟨t, h', tk', rfl, rfl, by rw [← e]; exact F, N⟩
theorem joinFi_stay {g : Heap} {L : Addr} {m : Str → Option Value} {news : List (Addr × Obj)} {y : Str} {s : Shared} {k v : Int} {t : Tok} {h' : Heap} {tk' : Nat} (F : Fr g L h' m) (N : News g L h' news)
    (hy : m y = some (.int k t)) (e : k = v) : JoinF g L m news y (fun t => .int v t) s .next { s with heap := h', toks := tk' } := ⟨t, h', tk', rfl, rfl, by rw [← e, map_same hy]; exact F, N⟩
section
variable {w : World} {p : Program} {loose : List Str} {mean : ExcName → Option Value} {mg mb : Str → Option Value} {hd : Option Value} {dp un : Nat} {gd : Option (List Code)} {cn : Str} {cs : Scope} {a : Addr} {ccd : Value} {cl : List (Str × Addr)} {outer : List Env} {A₀ : Around} {base h₀ : Heap} {L : Addr} {m : Str → Option Value} {news : List (Addr × Obj)} {s : Shared} {Q E : Value → Shared → Prop}
theorem ret_row {Q : Value → Shared → Prop} {ns row : List Int} {l e : Int} {t : Tok} {h' : Heap} {tk' : Nat} {s : Shared} {news' : List (Addr × Obj)} (hret : ∀ b t' h' tk', Fr h₀ L h' m → News h₀ L h' news → KBw.bInts b = (rowF ns).1 → Q (.bytes b t') { s with heap := h', toks := tk' })
    (hP : RowInv (modeV ns) (List.drop 1 ns) row l e) (F : Fr h₀ L h' m) (N : News h₀ L h' news') (hs : ∀ p ∈ news, p ∈ news') : Q (.bytes (byteArr row) t) { s with heap := h', toks := tk' } :=
  hret _ t h' tk' F (fun p hp => N p (hs p hp)) (by rw [KBa.ints_make hP.2.2]; exact congrArg Prod.fst hP.1)
set_option maxRecDepth 100000 in
set_option maxHeartbeats 8000000 in
theorem law_row (l : Addr) (vs : List Value) (ns : List Int) (hl : base.IsList l vs.toArray) (hi : IntsAre vs ns) (hn : ns.length ≤ 63) (B : Below A₀ base outer h₀) (F : Fr h₀ L s.heap m) (X : (Mine.hd.heap_39 w.params).In h₀) (N : News h₀ L s.heap news) (T : Top p loose mean mg mb h₀) (hk : cs.kind = .function) (hdp : dp + 3 < recursionLimit) (hun : un + 80 < cLine) 
    (hret : ∀ b t' h' tk', Fr h₀ L h' m → News h₀ L h' news → KBw.bInts b = (rowF ns).1 → Q (.bytes b t') { s with heap := h', toks := tk' }) :
    wpAny (model Challenge.rw_ko0015_01.row.prog w) (tA none dp un gd cn cs L a ccd cl outer) (call (.ref 159) [.ref l]) Q E s := by
  w_top off
  k_with_none
  k_with "k_room" => ((try simp only [depth_under_make, depth_under_kw, depth_in1, depth_deeper, depth_caller]); (try dsimp only [tA]); omega)
  k_with "call ref" => (k_here; (with_reducible show wpAny _ _ (call (Value.ref 152) _) _ _ _); (k_dflt (refine' law_letters ?zk1 ?zk2 ?zk3 ?zk4 ?zk5 ?zk6 ?zk7 ?zk8 ?_; (case zk1 => k_asm); (case zk2 => k_asm); (case zk3 => k_asm); (case zk4 => k_asm); (case zk5 => k_asm); (case zk6 => exact rfl); (case zk7 => k_room); (case zk8 => ktr_units))); intro t' h' tk' F' N'; (try k_sweep))
  k_with "subscriptTail" => (k_here; (with_reducible show wpAny _ _ (subscriptTail _ _ (Value.bytes LB _) (Value.int _ _)) _ _ _); refine item_LB (fmod_rng _ (by decide)).1 (fmod_rng _ (by decide)).2 ?_)
  k_with "compareOp In" => (k_here; (with_reducible show wpAny _ _ (compareOp CmpOp.In (Value.int _ _) (Value.bytes LB _)) _ _ _); refine in_LB (oct2_rng _ _).1 (oct2_rng _ _).2 ?_)
  k_with "eval IfExp" => (k_here; (fail_if_success (have hJ : Joining := by assumption)); (with_reducible rename Fr _ _ _ _ => jF); (with_reducible rename News _ _ _ _ => jN); (refine' join_eval (fun t => Value.int (modeV ns) t) jF jN ?_ ?_); rotate_left; (intro t' h' tk' F' N'; (try k_sweep)); rotate_right; intro hJ; by_cases hns : ns = []; rotate_left; (have h0 : 0 < ns.length := List.length_pos_iff.mpr hns); rotate_right)
  k_with "exec If" => (k_here; (fail_if_success (have hJ : Joining := by assumption)); (with_reducible show wpAny _ _ (exec (PySem.Stmt.If (PySem.Expr.BoolOp _ _ _) [PySem.Stmt.Assign [PySem.Expr.Name _ _] (PySem.Expr.Constant _ _ _) _] [] _) _) _ _ _); (with_reducible rename Fr _ _ _ _ => jF); (with_reducible rename News _ _ _ _ => jN); k_dflt (refine' join_exec (Str.ofString "octet") (fun t => Value.int (oct1 (modeV ns) kN) t) jF jN ?_ ?_); rotate_left; (intro t' h' tk' F' N'; (try k_sweep)); rotate_right; intro hJ)
  k_with "exec If" => (k_here; (fail_if_success (have hJ : Joining := by assumption)); (with_reducible show wpAny _ _ (exec (PySem.Stmt.If (PySem.Expr.BoolOp _ _ _) [PySem.Stmt.Assign [PySem.Expr.Name _ _] (PySem.Expr.BinOp _ _ _ _) _] [] _) _) _ _ _); (with_reducible rename Fr _ _ _ _ => jF); (with_reducible rename News _ _ _ _ => jN); k_dflt (refine' join_exec (Str.ofString "octet") (fun t => Value.int (oct2 (modeV ns) kN) t) jF jN ?_ ?_); rotate_left; (intro t' h' tk' F' N'; (try k_sweep)); rotate_right; intro hJ)
  revert X; k_fill; intro X
  refine wpAny_call ?_
  k_dflt cell_enter
  (k_with "pyIter ref" => k_state (fun pre row letters equals => RowInv (modeV ns) pre row letters equals ∧ row.length ≤ pre.length ∧ ∀ n ∈ row, 0 ≤ n ∧ n < 256) "row" "letters" "equals")
  (k_with "state" => refine row_and ?_; first | exact row_start | exact row_61 (by assumption) (by assumption) | exact row_skip (by assumption) (by assumption) (by assumption) (by assumption) (by assumption) | exact row_add1 (by assumption) (by assumption) (by assumption) (by assumption) | exact row_add2 (by assumption) (by assumption) (by assumption) (by assumption) | exact row_oth (by assumption) (by assumption) (by assumption))
  k_steps
  all_goals first | exact joinI_fin (by assumption) (by assumption) (by intro p hp; simp only [List.mem_cons, hp, or_true]) (modeV_nil (by assumption)).symm | exact joinI_fin (by assumption) (by assumption) (by intro p hp; simp only [List.mem_cons, hp, or_true]) (modeV_cons (by assumption)).symm | exact joinFi_set (by assumption) (by assumption) (by simp [oct1, oct2, *]) | exact joinFi_stay (by assumption) (by assumption) rfl (by simp [oct1, oct2, *]) | exact ret_row hret (by assumption) (by assumption) (by assumption) (by intro p hp; simp only [List.mem_cons, hp, or_true])
end
end
end Mine
end

section
open PySem PySem.W PyProof.Rows PySem.Calls PySem.Spec
set_option pp.deepTerms false
set_option pp.deepTerms.threshold 4
namespace Mine
noncomputable section
section
variable {w : World} {p : Program} {loose : List Str} {mean : ExcName → Option Value} {mg mb : Str → Option Value} {hd : Option Value} {dp un : Nat} {gd : Option (List Code)} {cn : Str} {cs : Scope} {a : Addr} {ccd : Value} {cl : List (Str × Addr)} {outer : List Env} {A₀ : Around} {base h₀ : Heap} {L : Addr} {m : Str → Option Value} {news : List (Addr × Obj)} {s : Shared} {Q E : Value → Shared → Prop}
set_option maxRecDepth 100000 in
set_option maxHeartbeats 8000000 in
theorem ascii_buffer (b : Array UInt8) (tb : Tok) (B : Below A₀ base outer h₀) (F : Fr h₀ L s.heap m) (X : (Mine.hd.heap_39 w.params).In h₀) (N : News h₀ L s.heap news) (T : Top p loose mean mg mb h₀) (hk : cs.kind = .function) (hdp : dp + 1 < recursionLimit) (hun : un + 8 < cLine)
    (hret : ∀ t' h' tk', Fr h₀ L h' m → News h₀ L h' news → Q (.bytes b t') { s with heap := h', toks := tk' }) :
    wpAny (model Challenge.rw_ko0015_01.row.prog w) (tA hd dp un gd cn cs L a ccd cl outer) (call (.ref 108) [.bytes b tb]) Q E s := by
  w_top off
  k_with_none
  k_with "k_room" => ((try simp only [depth_under_make, depth_under_kw, depth_in1, depth_deeper, depth_caller]); (try dsimp only [tA]); omega)
  k_with "call type:type" => (k_here; k_dflt (first | refine call_type_of (x := Value.bytes _ _) (Tx := "bytes") rfl (by decide) ?_ | refine call_type_of (x := Value.bool _) (Tx := "bool") rfl (by decide) ?_))
  revert X; k_fill; intro X
  refine wpAny_call ?_
  k_dflt cell_enter
  k_steps
  all_goals exact ret_bytes hret rfl (by assumption) (by assumption)
theorem ret_bool {Q : Value → Shared → Prop} {b c : Bool} {h' : Heap} {tk' : Nat} {s : Shared} (hret : ∀ h' tk', Fr h₀ L h' m → News h₀ L h' news → Q (.bool b) { s with heap := h', toks := tk' }) (e : c = b) (F : Fr h₀ L h' m) (N : News h₀ L h' news) : Q (.bool c) { s with heap := h', toks := tk' } := by
  subst e; exact hret h' tk' F N
set_option maxRecDepth 100000 in
set_option maxHeartbeats 8000000 in
theorem truth_b (v : Bool) (B : Below A₀ base outer h₀) (F : Fr h₀ L s.heap m) (X : (Mine.hd.heap_39 w.params).In h₀) (N : News h₀ L s.heap news) (T : Top p loose mean mg mb h₀) (hk : cs.kind = .function) (hdp : dp + 1 < recursionLimit) (hun : un + 8 < cLine)
    (hret : ∀ h' tk', Fr h₀ L h' m → News h₀ L h' news → Q (.bool v) { s with heap := h', toks := tk' }) :
    wpAny (model Challenge.rw_ko0015_01.row.prog w) (tA hd dp un gd cn cs L a ccd cl outer) (call (.ref 115) [.bool v]) Q E s := by
  w_top off
  k_with_none
  k_with "k_room" => ((try simp only [depth_under_make, depth_under_kw, depth_in1, depth_deeper, depth_caller]); (try dsimp only [tA]); omega)
  k_with "call type:type" => (k_here; k_dflt (first | refine call_type_of (x := Value.bytes _ _) (Tx := "bytes") rfl (by decide) ?_ | refine call_type_of (x := Value.bool _) (Tx := "bool") rfl (by decide) ?_))
  revert X; k_fill; intro X
  refine wpAny_call ?_
  k_dflt cell_enter
  cases v
  all_goals k_steps
  all_goals exact ret_bool hret rfl (by assumption) (by assumption)
end
end
end Mine
end

section
open PySem PySem.W PyProof.Rows PySem.Calls PySem.Spec
set_option maxRecDepth 100000
namespace Mine
/-- the exception object's context (its third field) -/
noncomputable def CtxIs (h : Heap) (e : Addr) (c : Value) : Prop := ∃ o vs, h.get? e = some o ∧ o.data = .fields vs ∧ vs[2]? = some c
theorem CtxIs.keeps {h h' : Heap} {e : Addr} {c : Value} (x : CtxIs h e c) (k : ∀ b o, h.get? b = some o → h'.get? b = some o) : CtxIs h' e c :=
  let ⟨o, vs, a, b, d⟩ := x; ⟨o, vs, k _ _ a, b, d⟩
theorem CtxIs.same {h h' : Heap} {e : Addr} {c : Value} (x : CtxIs h e c) (k : h'.get? e = h.get? e) : CtxIs h' e c :=
  let ⟨o, vs, a, b, d⟩ := x; ⟨o, vs, k.trans a, b, d⟩
theorem CtxIs.put {h : Heap} {e : Addr} {c v : Value} (x : CtxIs h e c) {i : Nat} (hi : i ≠ 2) : CtxIs (h.update e (Obj.mapFields (·.setIfInBounds i v))) e c := by
  obtain ⟨o, vs, a, b, d⟩ := x
  have hd := Obj.data_mapFields b (·.setIfInBounds i v)
  exact ⟨_, _, Heap.get?_update_self _ a (Obj.isFreed_of_fields hd), hd, by rw [Array.getElem?_setIfInBounds_ne hi]; exact d⟩
theorem CtxIs.other {h : Heap} {e T : Addr} {c : Value} {f : Obj → Obj} (x : CtxIs h e c) (hT : T ≠ e) : CtxIs (h.update T f) e c := x.same (Heap.get?_update_other _ _ hT)

section
variable {M : Model} {A : Around} {E : Value → Shared → Prop} {s : Shared}
/-- a new traceback entry: the library's wpAny_newEntryW, and the context stays -/
theorem newEntryX {base : Heap} {env : Env} {outer : List Env} {L e : Addr} {oe : Obj} {vs : Array Value} {head a0 c : Value} {hadNext : Bool} {Q : Unit → Shared → Prop}
    (hfr : A.frames = some (env :: outer)) (hl : s.heap.FunFrames base (env :: outer)) (hf : env.frame = some L)
    (he : s.heap.get? e = some oe) (hkb : base.StaysIn s.heap) (hen : base.get? e = none) (hd : oe.data = .fields vs) (hsz : 1 < vs.size) (h0 : vs[0]? = some a0) (h2 : vs[2]? = some c)
    (h : ∀ h', Heap.NotedW base (env :: outer) e oe.cls a0 (rawInt L) s.heap h' → CtxIs h' e c → Q () { s with heap := h' }) :
    wpAny M A (do let a ← frameOf env; let pl ← entryPlaceOf L hadNext; let b ← EntryCells.newEntry head a .none (rawInt L) .none pl; setField (.ref e) 1 b) Q E s := by
  have hene : e ∉ (env :: outer).filterMap (·.frame) := fun hm => by
    obtain ⟨_, o, ho, hnf⟩ := hl.mem hm
    rw [he] at ho
    cases ho
    exact hnf vs hd
  refine wpAny_bind (wpAny_frameOf_fun hfr hl hf fun h₁ hs₁ => ?_)
  refine wpAny_bind (wpAny_entryPlaceOf fun pl hpl => ?_)
  unfold EntryCells.newEntry newFields
  refine wpAny_bind (wpAny_newObj_type ?_ (hpl.sizeOk5 _ _ _ _ _))
  have he₁ : h₁.get? e = some oe := (hs₁.2.1 e hene).trans he
  have kb₁ : base.StaysIn h₁ := fun b o hbo => (hs₁.2.1 b fun hm => by rw [(hl.mem hm).1] at hbo; cases hbo).trans (hkb b o hbo)
  generalize hob : ({ cls := .type "traceback", dict := none, data := .fields ([head, .ref L, .none, rawInt L, .none] ++ (if pl.isEmpty then List.replicate 6 Value.none else pl)).toArray } : Obj) = ob
  have he₂ := Heap.get?_push_of_some (h := h₁) ob he₁
  have hfree : ob.isFreed = false := by rw [← hob]; rfl
  have hobd : ob.data = .fields ([head, .ref L, .none, rawInt L, .none] ++ (if pl.isEmpty then List.replicate 6 Value.none else pl)).toArray := by rw [← hob]
  refine wpAny_setField he₂ hd hsz (h _ ?_ (CtxIs.put ⟨oe, vs, he₂, hd, h2⟩ (by decide)))
  have hTe : h₁.objs.size ≠ e := Nat.ne_of_gt (Heap.lt_size he₁)
  have hd₃ := Obj.data_mapFields hd (·.setIfInBounds 1 (Value.ref h₁.objs.size))
  have he₃ := Heap.get?_update_self (Obj.mapFields (·.setIfInBounds 1 (Value.ref h₁.objs.size))) he₂ (Obj.isFreed_of_fields hd₃)
  have hT₃ := (Heap.get?_update_other (h₁.push ob) (Obj.mapFields (·.setIfInBounds 1 (Value.ref h₁.objs.size))) (Ne.symm hTe)).trans (Heap.get?_push_size h₁ hfree)
  have keep : ∀ b o, b ≠ e → h₁.get? b = some o → ((h₁.push ob).update e (Obj.mapFields (·.setIfInBounds 1 (Value.ref h₁.objs.size)))).get? b = some o := fun b o hbe hb => by
    rw [Heap.get?_update_other _ _ (Ne.symm hbe)]
    exact Heap.get?_push_of_some _ hb
  have noRecord : ∀ b o, s.heap.get? b = some o → (∀ vs, o.data ≠ .fields vs) → b ≠ e := fun b o hb hnf q => by
    rw [q, he] at hb
    cases hb
    exact hnf vs hd
  refine ⟨fun b o hbo => keep b o (fun q => by rw [q, hen] at hbo; cases hbo) (kb₁ b o hbo), hl.of_keeps fun b o hb hnf => ?_, ?_, fun b o hb hnf => ?_⟩
  · obtain ⟨sl, hs⟩ := hs₁.2.2 b o hb
    exact ⟨_, keep b _ (noRecord b o hb hnf) hs, rfl⟩
  · exact ⟨_, _, h₁.objs.size, _, _, he₃, ⟨Obj.cls_mapFields _ _, by rw [Array.getElem?_setIfInBounds_ne (by decide)]; exact h0⟩, hd₃, by simp [hsz], kb₁.fresh, hTe, hT₃, hobd, by first | (simp; done) | (rcases hpl with rfl | ⟨_, _, _, _, _, _, _, rfl⟩ <;> simp)⟩
  · obtain ⟨sl, hs⟩ := hs₁.2.2 b o hb
    exact ⟨sl, keep b _ (noRecord b o hb hnf) hs⟩

/-- noteFrame on an exception that has no traceback yet -/
theorem noteFirstX {base : Heap} {env : Env} {outer : List Env} {L e : Addr} {oe : Obj} {vs : Array Value} {a0 c : Value} {Q : Unit → Shared → Prop}
    (hfr : A.frames = some (env :: outer)) (hl : s.heap.FunFrames base (env :: outer)) (hf : env.frame = some L)
    (he : s.heap.get? e = some oe) (hkb : base.StaysIn s.heap) (hen : base.get? e = none) (hd : oe.data = .fields vs) (h1 : vs[1]? = some .none) (h0 : vs[0]? = some a0) (h2 : vs[2]? = some c)
    (h : ∀ h', Heap.NotedW base (env :: outer) e oe.cls a0 (rawInt L) s.heap h' → CtxIs h' e c → Q () { s with heap := h' }) : wpAny M A (noteFrame (.ref e) env) Q E s := by
  unfold noteFrame
  simp only [hf]
  refine wpAny_bind (wpAny_field he hd h1 ?_)
  rw [if_neg (by decide)]
  exact newEntryX hfr hl hf he hkb hen hd (Array.getElem?_eq_some_iff.mp h1).1 h0 h2 h

/-- noteFrame on an exception that has flown out of a deeper frame -/
theorem noteNextX {base : Heap} {env : Env} {outer : List Env} {L e : Addr} {cls a0 c : Value} {Q : Unit → Shared → Prop}
    (hfr : A.frames = some (env :: outer)) (hl : s.heap.FunFrames base (env :: outer)) (hf : env.frame = some L) (ht : s.heap.TracedW base e cls a0) (hc : CtxIs s.heap e c) (hkb : base.StaysIn s.heap) (hen : base.get? e = none)
    (h : ∀ h', Heap.NotedW base (env :: outer) e cls a0 (rawInt L) s.heap h' → CtxIs h' e c → Q () { s with heap := h' }) : wpAny M A (noteFrame (.ref e) env) Q E s := by
  obtain ⟨oe, vs, T, oT, ts, he, ⟨hcls, h0⟩, hd, h1, hnT, hTe, hT, hdT, h3⟩ := ht
  subst hcls
  obtain ⟨o', vs', he', hd', h2⟩ := hc
  rw [he] at he'
  cases he'
  rw [hd] at hd'
  cases hd'
  unfold noteFrame
  simp only [hf]
  refine wpAny_bind (wpAny_field he hd h1 ?_)
  rw [if_pos (show (Value.ref T != Value.none) = true from by simp)]
  refine wpAny_bind (wpAny_field hT hdT h3 ?_)
  rw [if_neg (show ¬ ((Value.none == rawInt L) = true) from by simp [rawInt])]
  refine wpAny_bind (wpAny_setField hT hdT (Array.getElem?_eq_some_iff.mp h3).1 ?_)
  have other : ∀ b, b ≠ T → (s.heap.update T (Obj.mapFields (·.setIfInBounds 3 Value.none))).get? b = s.heap.get? b := fun b hb => Heap.get?_update_other _ _ (Ne.symm hb)
  have noRecord : ∀ b o, s.heap.get? b = some o → (∀ vs, o.data ≠ .fields vs) → b ≠ T := fun b o hb hnf q => by
    rw [q, hT] at hb
    cases hb
    exact hnf ts hdT
  refine newEntryX hfr (hl.of_keeps fun b o hb hnf => ⟨o, (other b (noRecord b o hb hnf)).trans hb, rfl⟩) hf ((other e (Ne.symm hTe)).trans he)
    (fun b o hbo => (other b fun q => by rw [q, hnT] at hbo; cases hbo).trans (hkb b o hbo)) hen hd (Array.getElem?_eq_some_iff.mp h1).1 h0 h2
    fun h' ⟨x1, x2, x3, x4⟩ hc => h h' ⟨x1, x2, x3, fun b o hb hnf => x4 b o ((other b (noRecord b o hb hnf)).trans hb) hnf⟩ hc

/-- setFlight to none -/
theorem flightX {base : Heap} {l : List Env} {e : Addr} {cls a0 fl c : Value} {Q : Unit → Shared → Prop}
    (hkb : base.StaysIn s.heap) (hl : s.heap.FunFrames base l) (ht : s.heap.TracedAtW base e cls a0 fl) (hc : CtxIs s.heap e c)
    (h : ∀ h', base.StaysIn h' → h'.FunFrames base l → h'.TracedW base e cls a0 → (∀ b o, s.heap.get? b = some o → (∀ vs, o.data ≠ .fields vs) → h'.get? b = some o) → CtxIs h' e c → Q () { s with heap := h' }) :
    wpAny M A (setFlight (.ref e) none) Q E s := by
  obtain ⟨oe, vs, T, oT, ts, he, hcls, hd, h1, hnT, hTe, hT, hdT, h3⟩ := ht
  have hsz3 : 3 < ts.size := (Array.getElem?_eq_some_iff.mp h3).1
  have other : ∀ b, b ≠ T → (s.heap.update T (Obj.mapFields (·.setIfInBounds 3 ((none : Option Addr).elim Value.none fun f => rawInt f)))).get? b = s.heap.get? b :=
    fun b hb => Heap.get?_update_other _ _ (Ne.symm hb)
  have noRecord : ∀ b o, s.heap.get? b = some o → (∀ vs, o.data ≠ .fields vs) → b ≠ T := fun b o hb hnf q => by
    rw [q, hT] at hb
    cases hb
    exact hnf ts hdT
  unfold setFlight
  refine wpAny_bind (wpAny_field he hd h1 ?_)
  rw [if_pos (show (Value.ref T != Value.none) = true from by simp)]
  refine wpAny_setField hT hdT hsz3 (h _ (fun b o hbo => (other b fun q => by rw [q, hnT] at hbo; cases hbo).trans (hkb b o hbo))
    (hl.of_keeps fun b o hb hnf => ⟨o, (other b (noRecord b o hb hnf)).trans hb, rfl⟩) ?_ (fun b o hb hnf => (other b (noRecord b o hb hnf)).trans hb) (hc.other hTe))
  exact ⟨oe, vs, T, _, _, (other e (Ne.symm hTe)).trans he, hcls, hd, h1, hnT, hTe, Heap.get?_update_self _ hT (Obj.isFreed_of_fields (Obj.data_mapFields hdT _)), Obj.data_mapFields hdT _, by simp [hsz3]⟩
end

/-- an exception object just made, with its context -/
structure MadeX (h h' : Heap) (e : Addr) (cls c : Value) : Prop where
  keeps : ∀ b o, h.get? b = some o → h'.get? b = some o
  new : h.get? e = none
  there : ∃ a0, h'.get? e = some { cls := cls, data := .fields #[a0, .none, c, .none, .bool false, .none] }
theorem MadeX.of {h h' : Heap} {e : Addr} {cls : Value} {vs : List Value} (x : Heap.MadeExcOf h h' e cls vs) : MadeX h h' e cls .none :=
  ⟨x.keeps, x.new, let ⟨t, he, _⟩ := x.there; ⟨_, he⟩⟩
noncomputable def RaisedX (base G : Heap) (l : List Env) (e : Addr) (cls c : Value) (news : List (Addr × Obj)) (h : Heap) : Prop := RaisedSN base G l e cls news h ∧ CtxIs h e c
theorem RaisedX.less {base G : Heap} {l : List Env} {e : Addr} {cls c : Value} {news news' : List (Addr × Obj)} {h : Heap} (x : RaisedX base G l e cls c news h) (hs : ∀ p ∈ news', p ∈ news) : RaisedX base G l e cls c news' h := by
  obtain ⟨⟨B, a0, h1, h2, h3, h4⟩, hc⟩ := x
  exact ⟨⟨B, a0, h1, h2, fun q hq => h3 q (hs q hq), h4⟩, hc⟩

section
variable {M : Model} {A : Around} {E : Value → Shared → Prop} {s' : Shared} {base g g₂ h : Heap} {outer : List Env} {L a e : Addr} {m : Str → Option Value} {name : Str} {scope : Scope} {cd : Value} {Q : Unit → Shared → Prop} {news : List (Addr × Obj)}
theorem leave_newX {cls c : Value} (K : Below A base outer g) (hx : MadeX h s'.heap e cls c) (F : Fr g L h m) (N : News g L h news)
    (hQ : ∀ h', RaisedX base g outer e cls c news h' → g.UpToSlots h' → Q () { s' with heap := h' }) (hk : scope.kind = .function := by rfl) :
    wpAny M (A.deeper (envOf name scope L a cd)) (leaving (envOf name scope L a cd) (.ref e)) Q E s' := by
  have K' := K.push (name := name) (a := a) (cd := cd) F hk
  have hin : ∀ env ∈ (envOf name scope L a cd :: outer), ∀ b, env.frame = some b → b ∈ (envOf name scope L a cd :: outer).filterMap (·.frame) := fun env he b hb => List.mem_filterMap.mpr ⟨env, he, hb⟩
  have st : base.StaysIn (hideAll h ((envOf name scope L a cd :: outer).filterMap (·.frame))) := fun b o q => hideAll_get _ (K'.stays b o q) fun hm => by
    rw [(K'.frames.mem hm).1] at q
    cases q
  have sg : ∀ b o, g.get? b = some o → b ∉ outer.filterMap (·.frame) → (hideAll h ((envOf name scope L a cd :: outer).filterMap (·.frame))).get? b = some o := fun b o q nm => hideAll_get _ (F.keep b o q) fun hm => by
    rcases kts_mem hm with z | z
    · rw [z, kts_self F] at q
      cases q
    · exact nm z
  have hl : ∀ q ∈ news, (hideAll h ((envOf name scope L a cd :: outer).filterMap (·.frame))).get? q.1 = some q.2 ∧ g.get? q.1 = none ∧ base.get? q.1 = none := fun q hq => by
    refine ⟨hideAll_get _ (N q hq).1 fun hm => ?_, (N q hq).2.2, fresh_of_stays K.stays (N q hq).2.2⟩
    obtain ⟨env, he, hf⟩ := List.mem_filterMap.mp hm
    rcases List.mem_cons.mp he with rfl | he
    · exact (N q hq).2.1 (Option.some.inj hf).symm
    · obtain ⟨o, ho, _⟩ := (K.frames.mem (List.mem_filterMap.mpr ⟨env, he, hf⟩)).2
      rw [(N q hq).2.2] at ho
      cases ho
  obtain ⟨a0, he⟩ := hx.there
  have hen : (hideAll h ((envOf name scope L a cd :: outer).filterMap (·.frame))).get? e = none := by
    cases q : (hideAll h ((envOf name scope L a cd :: outer).filterMap (·.frame))).get? e with
    | none => rfl
    | some o =>
      have := of_hideAll _ q
      rw [hx.new] at this
      cases this
  unfold leaving
  refine wpAny_bind (noteFirstX (a0 := a0) (c := c) K'.stack ((funFrames_hide K'.frames hin).of_keeps fun b o hb _ => ⟨o, hx.keeps b o hb, rfl⟩) rfl he (fun b o hb => hx.keeps b o (of_hideAll _ hb)) hen rfl rfl rfl rfl fun h₁ hN hc₁ => ?_)
  obtain ⟨n1, n2, n3, n4⟩ := hN
  refine flightX n1 n2 n3 hc₁ fun h₂ k1 k2 k3 k4 hc₂ => ?_
  obtain ⟨_, _, k5⟩ := k2
  have R : RaisedSN base g outer e cls news h₂ := ⟨_, a0, st, sg, hl, k1, hen, k5, k3⟩
  exact hQ h₂ ⟨R, hc₂⟩ (((Heap.UpToSlots.of_keeps F.keep).trans (Heap.UpToSlots.of_keeps hx.keeps)).trans (Heap.UpToSlots.trans n4 fun b o hb hn => ⟨o.slots, k4 b o hb hn⟩))
theorem leave_onX {cls c : Value} (K : Below A base outer g) (F : Fr g L g₂ m) (R : RaisedX base g₂ (envOf name scope L a cd :: outer) e cls c news s'.heap) (hsm : g₂.UpToSlots s'.heap)
    (hQ : ∀ h', RaisedX base g outer e cls c news h' → g.UpToSlots h' → Q () { s' with heap := h' }) :
    wpAny M (A.deeper (envOf name scope L a cd)) (leaving (envOf name scope L a cd) (.ref e)) Q E s' := by
  obtain ⟨⟨B, a0, hB, hBG, hl, f1, f2, f3, f4⟩, hc⟩ := R
  unfold leaving
  refine wpAny_bind (noteNextX (Around.frames_deeper K.stack) f3 rfl f4 hc f1 f2 fun h₁ hN hc₁ => ?_)
  obtain ⟨n1, n2, n3, n4⟩ := hN
  refine flightX n1 n2 n3 hc₁ fun h₂ k1 k2 k3 k4 hc₂ => ?_
  obtain ⟨_, _, k5⟩ := k2
  have R : RaisedSN base g outer e cls news h₂ := ⟨B, a0, hB, fun b o q nm => hBG b o (F.keep b o q) (fun hm => by
      rcases kts_mem hm with z | z
      · rw [z, kts_self F] at q
        cases q
      · exact nm z), fun q hq => ⟨(hl q hq).1, kts_none F.keep (hl q hq).2.1, (hl q hq).2.2⟩, k1, f2, k5, k3⟩
  exact hQ h₂ ⟨R, hc₂⟩ ((Heap.UpToSlots.of_keeps F.keep).trans (hsm.trans (Heap.UpToSlots.trans n4 fun b o hb hn => ⟨o.slots, k4 b o hb hn⟩)))
end

section
variable {prog : Program} {w : World} {A₀ : Around} {E : Value → Shared → Prop} {s' : Shared} {base g g₀ G : Heap} {outer : List Env} {L a e C : Addr} {m : Str → Option Value} {name : Str} {scope : Scope} {cd : Value}
  {b₀ : Stmt} {suite : List Stmt} {pos np : Pos} {rest : List ExceptHandler} {Q : Flow → Shared → Prop} {news : List (Addr × Obj)} {KF : Frag}
  {p : Program} {loose : List Str} {mean : ExcName → Option Value} {mg mb : Str → Option Value} {x : Str} {c : Value}
/-- an own exception caught by its own class's name; its context is known behind it -/
theorem caughtX (R : RaisedX base G (envOf name scope L a cd :: outer) e (.ref C) c news s'.heap) (F : Fr g L G m) (K : Below A₀ base outer g) (hsm : G.UpToSlots s'.heap) (XB : KF.In base) (TB : Top p loose mean mg mb base)
    (D : KtsDicts (outer.filterMap (·.frame)) g) (T0 : KtsTurn (outer.filterMap (·.frame)) g₀ g)
    (ex : nsIn KF mainGlobals x = some (some (.ref C))) (q : ktsIn KF C "BaseException" = true)
    (k : ∀ h' g' oe ws, KtsTurn (outer.filterMap (·.frame)) g₀ g' → Fr g' L h' m → News g' L h' ((e, oe) :: news) → oe.data = .fields ws → ws[2]? = some c → Below A₀ base outer g' → KF.In g' → Top p loose mean mg mb g' → KtsDicts (outer.filterMap (·.frame)) g' →
      wpAny (model prog w) ((A₀.deeper (envOf name scope L a cd)).mark (some (.ref e))) (execs (b₀ :: suite) (envOf name scope L a cd)) Q E { s' with heap := h' })
    (hk : scope.kind = .function := by rfl) (hx : (envOf name scope L a cd).kindOf x = some .globalImplicit := by rfl) (hd : (x == ("__debug__" : Str)) = false := by decide)
    (hE : PassesOwnAt (model prog w) ((A₀.deeper (envOf name scope L a cd)).mark (some (.ref e))) (A₀.deeper (envOf name scope L a cd)) (envOf name scope L a cd) E := by passes_own) :
    wpAny (model prog w) (A₀.deeper (envOf name scope L a cd)) (noteFrame (.ref e) (envOf name scope L a cd))
      (fun _ s₂ => wpAny (model prog w) (A₀.deeper (envOf name scope L a cd)) (setFlight (.ref e) none) (fun _ s₃ =>
        wpAny (model prog w) (A₀.deeper (envOf name scope L a cd)) (handleBy (.ref e) (envOf name scope L a cd) (.ExceptHandler (some (.Name x np)) none (b₀ :: suite) pos :: rest)) Q E s₃) E s₂) E s' := by
  obtain ⟨⟨B, a0, hB, hBG, hl, f1, f2, f3, f4⟩, hc⟩ := R
  have hL : B.get? L = none := by
    obtain ⟨_, ⟨L', _, hf, hn', _⟩, _⟩ := f3
    obtain rfl : L = L' := Option.some.inj hf
    exact hn'
  refine noteNextX (Around.frames_deeper K.stack) f3 rfl f4 hc f1 f2 fun h₄ hN hc₄ => ?_
  obtain ⟨n1, n2, n3, hsm₄⟩ := hN
  refine flightX n1 n2 n3 hc₄ fun h₅ k1 k2 k3 k4 hc₅ => ?_
  have hsm₅ : s'.heap.UpToSlots h₅ := Heap.UpToSlots.trans hsm₄ fun b o hb hn => ⟨o.slots, k4 b o hb hn⟩
  obtain ⟨g₅, T₅, F₅, K₅⟩ := kts_ground K F hBG k1 (hsm.trans hsm₅)
  have X₅ : KF.In g₅ := XB.keeps K₅.stays
  have P₅ : TopRead p loose mg mb g₅ := topRead_of (TB.keeps K₅.stays)
  obtain ⟨ob, hob, hobc⟩ := k3.at.there
  obtain ⟨nm, q', N, bs, bm, hdct, sn, sub, ab, col, dd, j0, j1, j2, j3, j5, newId, hC, hbase, hbT⟩ := kts_cls X₅ q
  have hC₅ := F₅.keep _ _ hC
  refine wpAny_handleBy_cons (codeAny_handlers_test (name_K F₅ X₅ P₅ ex ?_ hk hx hd)) (by intro q; cases q)
  refine wpAny_excMatches_sub_self hC₅ hob hobc hbase (codeAny_handlers_suite ?_)
  refine flightX k1 k2 k3.at hc₅ fun h₆ l1 l2 l3 l4 hc₆ => ?_
  have hsm₆ : h₅.UpToSlots h₆ := fun b o hb hn => ⟨o.slots, l4 b o hb hn⟩
  obtain ⟨g₆, T₆, F₆, K₆⟩ := kts_ground K F hBG l1 ((hsm.trans hsm₅).trans hsm₆)
  obtain ⟨oe, ws, hoe, hoed, hoe2⟩ := hc₆
  have ne₆ : g₆.get? e = none := T₆.none_ _ (kts_fresh F hBG f2 fun o ho m => by
    obtain ⟨_, o', ho', hd⟩ := K.frames.mem m
    rw [ho] at ho'
    cases ho'
    obtain ⟨sl, hs⟩ := ((hsm.trans hsm₅).trans hsm₆) _ _ (F.keep _ _ ho) hd
    rw [hoe] at hs
    cases hs
    exact hd _ hoed)
  have N₆ := News.more F₆ News.nil hoe (fun es n q => by rw [hoed] at q; cases q) ne₆
  have Nl : News g₆ L h₆ ((e, oe) :: news) := fun q hq => by
    rcases List.mem_cons.mp hq with rfl | hq
    · exact N₆ _ (.head _)
    · exact ⟨l1 _ _ (hl q hq).1, (fun z => by have := (hl q hq).1; rw [z, hL] at this; cases this), T₆.none_ _ (kts_none F.keep (hl q hq).2.1)⟩
  exact wpAny_passesOwnAt hE (k h₆ g₆ oe ws (T0.trans T₆) F₆ Nl hoed hoe2 K₆ (XB.keeps K₆.stays) (TB.keeps K₆.stays) (D.turn T₆))
end
end Mine
end

section
open PySem PySem.W PyProof.Rows PySem.Calls PySem.Spec
set_option maxRecDepth 100000
namespace Mine
/-- what is handled: nothing; or an exception whose context ends after one or two steps -/
noncomputable def ChainOk (hd : Option Value) (h : Heap) : Prop :=
  hd = none ∨ (∃ e, hd = some (.ref e) ∧ CtxIs h e .none) ∨ (∃ e e1, hd = some (.ref e) ∧ CtxIs h e (.ref e1) ∧ CtxIs h e1 .none)
theorem ChainOk.keeps {hd : Option Value} {h h' : Heap} (x : ChainOk hd h) (k : ∀ b o, h.get? b = some o → h'.get? b = some o) : ChainOk hd h' := by
  rcases x with x | ⟨e, x, y⟩ | ⟨e, e1, x, y, z⟩
  · exact .inl x
  · exact .inr (.inl ⟨e, x, y.keeps k⟩)
  · exact .inr (.inr ⟨e, e1, x, y.keeps k, z.keeps k⟩)
theorem entry_unchain : entryFor table "proto.unchain" = some Builtin.«proto.unchain» := by first | exact entryFor_of_fast (by kernel_rfl) | exact entryFor_of_tree (by kernel_rfl)
theorem plain_unchain : plainId "proto.unchain" = true := by decide +kernel
section
variable {prog : Program} {w : World} {A : Around} {E : Value → Shared → Prop} {s : Shared}
theorem unchain_end {a e x : Addr} {b : Bool} {R : Result → Shared → Prop} (hc : CtxIs s.heap e .none) (h : R (.ok (.ret .none)) s) :
    codeAny (model prog w) A (.builtin "proto.unchain" ⟨[.ref a, .ref e, .ref x, .bool b], []⟩) R s := by
  obtain ⟨o, vs, ho, hd, h2⟩ := hc
  refine codeAny_builtin entry_unchain ?_
  rw [Around.under_plainId plain_unchain _]
  show wpAny _ _ (field (.ref e) 2 >>= _) _ _ s
  refine wpAny_bind (wpAny_field ho hd h2 ?_)
  rw [if_pos (show (Value.none == Value.none) = true from by decide)]
  first | exact wpAny_pure h | exact wpAny_bind (wpAny_pure (wpAny_pure h)) | exact wpAny_bind (wpAny_bind (wpAny_pure (wpAny_pure h)))
theorem unchain_two {a e e1 : Addr} {R : Result → Shared → Prop} (hc : CtxIs s.heap e (.ref e1)) (hc1 : CtxIs s.heap e1 .none) (hne : e1 ≠ a) (h : R (.ok (.ret .none)) s) :
    codeAny (model prog w) A (.builtin "proto.unchain" ⟨[.ref a, .ref e, .ref e, .bool false], []⟩) R s := by
  obtain ⟨o, vs, ho, hd, h2⟩ := hc
  refine codeAny_builtin entry_unchain ?_
  rw [Around.under_plainId plain_unchain _]
  show wpAny _ _ (field (.ref e) 2 >>= _) _ _ s
  refine wpAny_bind (wpAny_field ho hd h2 ?_)
  rw [if_neg (show ¬ ((Value.ref e1 == Value.none) = true) from by simp), if_neg (show ¬ ((Value.ref e1 == Value.ref a) = true) from by simp [hne])]
  by_cases q : e1 = e
  · rw [if_pos (show (Value.ref e1 == Value.ref e) = true from by simp [q])]
    first | exact wpAny_bind (wpAny_rule (wpAny_pure h)) | exact wpAny_bind (wpAny_rule (wpAny_bind (wpAny_pure (wpAny_pure h))))
  · rw [if_neg (show ¬ ((Value.ref e1 == Value.ref e) = true) from by simp [q])]
    refine wpAny_bind (wpAny_pure ?_)
    refine wpAny_pure ⟨plainId_quiet plain_unchain _, ?_⟩
    exact unchain_end hc1 h
theorem store_ctx {α : Type} {a e : Addr} {o : Obj} {vs : Array Value} {Q : α → Shared → Prop} (hne : e ≠ a)
    (hu : codeAny (model prog w) A (.builtin "proto.unchain" ⟨[.ref a, .ref e, .ref e, .bool false], []⟩) (fun r s' => match r with | .ok (.ret _) => s' = s | _ => False) s)
    (ho : s.heap.get? a = some o) (hd' : o.data = .fields vs) (hsz : 2 < vs.size)
    (h : ∀ h', (∀ b o', b ≠ a → s.heap.get? b = some o' → h'.get? b = some o') → (∃ o', h'.get? a = some o' ∧ o'.cls = o.cls ∧ o'.dict = o.dict ∧ o'.slots = o.slots ∧ o'.data = .fields (vs.setIfInBounds 2 (.ref e))) → E (.ref a) { s with heap := h' }) :
    wpAny (model prog w) A (if Value.ref e != Value.ref a then (do
            let _ ← holding [Value.ref a] (runValue (.builtin "proto.unchain" ⟨[Value.ref a, Value.ref e, Value.ref e, .bool false], []⟩))
            let _ ← updateField a 2 (Value.ref e)
            throw (Value.ref a) : Sem α)
          else (throw (Value.ref a) : Sem α)) Q E s := by
  rw [if_pos (show (Value.ref e != Value.ref a) = true from by simp [hne])]
  refine wpAny_bind (wpAny_holding (wpAny_runValue (codeAny_mono hu fun r s' g => ?_)))
  match r, g with
  | .ok (.ret _), g =>
    subst g
    refine wpAny_bind ?_
    unfold updateField
    refine wpAny_bind (wpAny_load ho ?_)
    rw [hd']
    show wpAny _ _ (if 2 < vs.size then _ else _) _ _ _
    rw [if_pos hsz]
    refine wpAny_update ho (wpAny_throw (h _ (fun b o' hb q => (Heap.get?_update_other _ _ (Ne.symm hb)).trans q) ⟨_, Heap.get?_update_self _ ho (Obj.isFreed_of_fields (Obj.data_mapFields hd' _)), Obj.cls_mapFields .., ?_, ?_, Obj.data_mapFields hd' _⟩))
    · obtain ⟨_, _, dt, _⟩ := o; cases hd'; rfl
    · obtain ⟨_, _, dt, _⟩ := o; cases hd'; rfl
theorem set2_same {vs : Array Value} (hsz : 2 < vs.size) (h2 : vs[2]? = some .none) : vs.setIfInBounds 2 .none = vs := by
  have e : vs[2] = .none := by
    rw [Array.getElem?_eq_getElem hsz] at h2
    exact Option.some.inj h2
  refine Array.ext (by simp) fun i h1 h3 => ?_
  rw [Array.getElem_setIfInBounds (by simpa using h1)]
  by_cases q : 2 = i
  · subst q; simp [e]
  · simp [q]
/-- raising a new exception while hd is handled: its context is set -/
theorem raiseNewX {α : Type} {a : Addr} {o : Obj} {vs : Array Value} {h₀ : Heap} {hd : Option Value} {Q : α → Shared → Prop} (hA : A.handled = hd) (hc : ChainOk hd h₀) (hk : ∀ b o, h₀.get? b = some o → s.heap.get? b = some o) (ha : h₀.get? a = none)
    (ho : s.heap.get? a = some o) (hd' : o.data = .fields vs) (hsz : 2 < vs.size) (h2 : vs[2]? = some .none)
    (h : ∀ h', (∀ b o', b ≠ a → s.heap.get? b = some o' → h'.get? b = some o') → (∃ o', h'.get? a = some o' ∧ o'.cls = o.cls ∧ o'.dict = o.dict ∧ o'.slots = o.slots ∧ o'.data = .fields (vs.setIfInBounds 2 (hd.getD .none))) → E (.ref a) { s with heap := h' }) :
    wpAny (model prog w) A (raiseNew (.ref a) : Sem α) Q E s := by
  unfold raiseNew
  refine wpAny_bind (wpAny_handled ?_)
  rw [hA]
  have ne_of : ∀ e, (∃ o, h₀.get? e = some o) → e ≠ a := fun e ⟨o, q⟩ z => by rw [z, ha] at q; cases q
  rcases hc with rfl | ⟨e, rfl, c1⟩ | ⟨e, e1, rfl, c1, c2⟩
  · refine wpAny_bind (wpAny_pure (wpAny_throw (h s.heap (fun b o' _ q => q) ⟨o, ho, rfl, rfl, rfl, ?_⟩)))
    rw [hd', Option.getD_none, set2_same hsz h2]
  · exact store_ctx (ne_of e (let ⟨o, _, q, _⟩ := c1; ⟨o, q⟩)) (unchain_end (c1.keeps hk) rfl) ho hd' hsz h
  · exact store_ctx (ne_of e (let ⟨o, _, q, _⟩ := c1; ⟨o, q⟩)) (unchain_two (c1.keeps hk) (c2.keeps hk) (ne_of e1 (let ⟨o, _, q, _⟩ := c2; ⟨o, q⟩)) rfl) ho hd' hsz h
end
end Mine
end

section
open PySem PySem.W PyProof.Rows PySem.Calls PySem.Spec
set_option maxRecDepth 100000
namespace Mine
section
variable {prog : Program} {w : World} {A : Around} {E : Value → Shared → Prop} {s : Shared} {hd : Option Value}
theorem CtxIs.put' {h : Heap} {e it : Addr} {c v : Value} (x : CtxIs h e c) : CtxIs (h.update it (Obj.mapFields (·.setIfInBounds 0 v))) e c := by
  by_cases q : it = e
  · subst q; exact x.put (by decide)
  · exact x.other q
theorem ChainOk.put {h : Heap} {it : Addr} {v : Value} (x : ChainOk hd h) : ChainOk hd (h.update it (Obj.mapFields (·.setIfInBounds 0 v))) := by
  rcases x with x | ⟨e, x, y⟩ | ⟨e, e1, x, y, z⟩
  · exact .inl x
  · exact .inr (.inl ⟨e, x, y.put'⟩)
  · exact .inr (.inr ⟨e, e1, x, y.put', z.put'⟩)
/-- the tail of an iterator's end: StopIteration is made, raised while hd is handled, and taken -/
theorem stopX {Q : Option Value → Shared → Prop} {Q1 : Fin → Shared → Prop} (hA : A.handled = hd) (hc : ChainOk hd s.heap)
    (hQ : ∀ h', (∀ b o, s.heap.get? b = some o → h'.get? b = some o) → Q none { s with heap := h' }) :
    wpAny (model prog w) A.in1 Builtin.SmallTypes.stopIteration Q1
      (fun e s' => wpAny (model prog w) A (do let b ← isInstance e (.type "StopIteration"); if b = true then pure none else throw e) Q E s') s := by
  show wpAny _ _ (newExc (.type "StopIteration") [] >>= _) _ _ _
  refine wpAny_bind ?_
  simp only [newExc, newTuple]
  refine wpAny_bind (wpAny_newObj_type ?_ (by size_fits))
  refine wpAny_bind (m := firstArgMember _ _) (wpAny_of_eq (a := Value.none) (by first | rfl | (simp only [firstArgMember]; rfl)) ?_)
  refine wpAny_newObj_type ?_ (by size_fits)
  have hlt : ∀ b o, s.heap.get? b = some o → b < s.heap.objs.size := fun b o q => Heap.lt_size q
  refine raiseNewX (hd := hd) (h₀ := s.heap) (by exact hA) hc (fun b o q => Heap.get?_push_of_some _ (Heap.get?_push_of_some _ q)) ?_ (Heap.get?_push_size _ rfl) rfl (by first | decide | (simp; omega)) (by first | rfl | simp) ?_
  · cases q : s.heap.get? (s.heap.push { cls := .type "tuple", data := .seq ([] : List Value).toArray }).objs.size with
    | none => rfl
    | some o => exact absurd (hlt _ _ q) (by rw [Heap.size_push]; exact Nat.not_lt.mpr (Nat.le_succ _))
  · rintro h' hk' ⟨o', ho', hc', _⟩
    refine wpAny_bind (wpAny_isInstance (T := "StopIteration") (b := true) ⟨o', ho', hc'⟩ isSubtype_stop ?_)
    exact wpAny_pure (hQ h' fun b o q => hk' b o (fun z => by
      have := hlt b o q
      rw [z, Heap.size_push] at this
      exact Nat.lt_irrefl _ (Nat.lt_trans (Nat.lt_succ_self _) this)) (Heap.get?_push_of_some _ (Heap.get?_push_of_some _ q)))
theorem list_endX {it l : Addr} {i : Nat} {items : Array Value} {Q : Option Value → Shared → Prop} (hA : A.handled = hd) (hc : ChainOk hd s.heap)
    (hit : s.heap.IsListIter it l i) (hl : s.heap.IsList l items) (hx : items[i]? = none)
    (hQ : ∀ h', Heap.ExtBut it s.heap h' → Q none { s with heap := h' }) : wpAny (model prog w) A (pyNext (.ref it)) Q E s := by
  obtain ⟨o, ho, hcc, hd'⟩ := id hit
  obtain ⟨ol, hol, _, nl, hdl⟩ := hl
  unfold pyNext
  refine wpAny_bind (wpAny_attempt (wpAny_callSpecial?_slot (name := Str.ofString "__next__") hit.typeIs slot_listiter_next
    (wpAny_call_entry slot_listiter_next hit.typeIs entry_listiter_next ?_ (args_listiter_next _))))
  show wpAny _ _ (field (.ref it) 0 >>= _) _ _ s
  refine wpAny_bind (wpAny_field ho hd' (x := .ref l) rfl ?_)
  show wpAny _ _ (if (Value.ref l == Value.none) = true then _ else _) _ _ s
  rw [if_neg (show ¬ ((Value.ref l == Value.none) = true) from Bool.false_ne_true)]
  show wpAny _ _ (field (.ref it) 1 >>= _) _ _ s
  refine wpAny_bind (wpAny_field ho hd' (x := .int i 0) rfl ?_)
  show wpAny _ _ (seqItems? (.ref l) >>= _) _ _ s
  refine wpAny_bind (wpAny_seqItems hol hdl ?_)
  simp only [Int.toNat_natCast, hx]
  refine wpAny_bind (wpAny_rule (wpAny_bind (wpAny_setField ho hd' (by simp) ?_)))
  exact stopX hA hc.put fun h' hk => hQ h' fun b o hb q => hk b o ((Heap.get?_update_other _ _ (Ne.symm hb)).trans q)
theorem bytes_endX {it : Addr} {b : Array UInt8} {t : Tok} {i : Nat} {Q : Option Value → Shared → Prop} (hA : A.handled = hd) (hc : ChainOk hd s.heap) (hit : KBw.IsBytesIter s.heap it b t i) (hx : b[i]? = none)
    (hQ : ∀ h', Heap.ExtBut it s.heap h' → Q none { s with heap := h' }) : wpAny (model prog w) A (pyNext (.ref it)) Q E s := by
  obtain ⟨o, ho, hcc, hd'⟩ := id hit
  unfold pyNext
  refine wpAny_bind (wpAny_attempt (wpAny_callSpecial?_slot (name := PySem.Str.ofString "__next__") (KBw.iter_typeIs hit) KBw.slot_next
    (wpAny_call_entry KBw.slot_next (KBw.iter_typeIs hit) KBw.entry_next ?_ (KBw.args_next _))))
  show wpAny _ _ (field (.ref it) 0 >>= _) _ _ s
  refine wpAny_bind (wpAny_field ho hd' (x := .bytes b t) rfl ?_)
  show wpAny _ _ (if (Value.bytes b t == Value.none) = true then _ else _) _ _ s
  rw [if_neg (show ¬ ((Value.bytes b t == Value.none) = true) from Bool.false_ne_true)]
  show wpAny _ _ (field (.ref it) 1 >>= _) _ _ s
  refine wpAny_bind (wpAny_field ho hd' (x := .int i 0) rfl ?_)
  refine wpAny_bind (wpAny_of_eq (a := b) rfl ?_)
  simp only [Int.toNat_natCast, hx]
  refine wpAny_bind (wpAny_rule (wpAny_bind (wpAny_setField ho hd' (by simp) ?_)))
  exact stopX hA hc.put fun h' hk => hQ h' fun b o hb q => hk b o ((Heap.get?_update_other _ _ (Ne.symm hb)).trans q)
theorem bytes_loopX {R : Result → Shared → Prop} {hb : Heap} {l I S : Addr} {vs : List Value} {ns : List Int} (hA : A.handled = hd) (hc : ChainOk hd hb) (hbI : hb.get? I = none) (hbS : hb.get? S = none)
    (hi : IntsAre vs ns) (hr : ∀ n ∈ ns, 0 ≤ n ∧ n < 256) (hz : ns.length ≤ sizeLine) (hIS : I ≠ S) (hlI : l ≠ I) (hlS : l ≠ S) :
    ∀ (k i : Nat) (s : Shared), ns.length - i = k → i ≤ ns.length → (∀ b o, hb.get? b = some o → s.heap.get? b = some o) → s.heap.IsList l vs.toArray → s.heap.IsListIter I l i → s.heap.get? S = some { cls := .type "bytearray", data := .bytearray (byteArr (ns.take i)) } →
      (∀ h' t k', (∀ b o, b ≠ I → b ≠ S → s.heap.get? b = some o → h'.get? b = some o) → R (.ok (.ret (.bytes (byteArr ns) t))) { s with heap := h', toks := k' }) →
      codeAny (model prog w) A (.builtin "bytes.__new__.loop" ⟨[.type "bytes", .ref I, .ref S], []⟩) R s := by
  have hlen : vs.length = ns.length := hi.length
  intro k
  induction k with
  | zero =>
    intro i s hk hle hkb hl hit hS hR
    have hin : i = ns.length := by omega
    subst hin
    refine codeAny_builtin F.bm_entry_loop ?_
    rw [Around.under_plainId F.bm_plain_loop _]
    show wpAny _ A.in1 (pyNext (.ref I) >>= _) _ _ s
    refine wpAny_bind (list_endX (A := A.in1) hA (hc.keeps hkb) hit hl (by simp [hlen]) fun h' he => ?_)
    have hS' : h'.get? S = some { cls := .type "bytearray", data := .bytearray (byteArr (ns.take ns.length)) } := he S _ (Ne.symm hIS) hS
    refine wpAny_bind ?_
    unfold Builtin.Bytes.payload Builtin.Bytes.payload?
    refine wpAny_bind (wpAny_bind (wpAny_load hS' ?_))
    refine wpAny_pure (wpAny_pure ?_)
    rw [List.take_length]
    refine wpAny_bind (wpAny_mkBytes ?_ (by rw [byteArr_size]; exact hz))
    show wpAny _ _ (if (Value.type "bytes" == Value.type "bytes") = true then _ else _) _ _ _
    refine bm_if_true (by decide) ?_
    first
      | exact wpAny_pure (hR h' _ _ fun b o hb _ e => he b o hb e)
      | exact wpAny_bind (wpAny_pure (wpAny_pure (hR h' _ _ fun b o hb _ e => he b o hb e)))
  | succ k ih =>
    intro i s hk hle hkb hl hit hS hR
    have hlt : i < ns.length := by omega
    obtain ⟨x, hx⟩ : ∃ x, vs[i]? = some x := ⟨vs[i]'(by omega), List.getElem?_eq_getElem (by omega)⟩
    obtain ⟨n, t, rfl, hn⟩ := IntsAre.at hi i x hx
    obtain ⟨h0, h1⟩ := hr n (List.mem_of_getElem? hn)
    refine codeAny_builtin F.bm_entry_loop ?_
    rw [Around.under_plainId F.bm_plain_loop _]
    show wpAny _ A.in1 (pyNext (.ref I) >>= _) _ _ s
    refine wpAny_bind (wpAny_pyNext_list_item (x := .int n t) hit hl (by simpa using hx) fun h' hit' hs => ?_)
    have hS' : h'.get? S = some { cls := .type "bytearray", data := .bytearray (byteArr (ns.take i)) } := (hs.2 S (Ne.symm hIS)).trans hS
    refine wpAny_bind (wpAny_holding (wpAny_of_eq (rfl : asIndex (.int n t) = pure n) ?_))
    refine wpAny_bind (wpAny_letGo ?_)
    refine bm_if_false (by simp only [Bool.or_eq_false_iff, decide_eq_false_iff_not]; omega) ?_
    refine wpAny_bind ?_
    show wpAny _ _ (updateBytearray S (·.push n.toNat.toUInt8)) _ _ _
    unfold updateBytearray
    refine wpAny_bind (wpAny_load hS' ?_)
    show wpAny _ _ (update S (Obj.mapBytearray (·.push n.toNat.toUInt8)) >>= fun _ => lookBehind S) _ _ _
    refine wpAny_bind (wpAny_update hS' ?_)
    have hS₂ : (h'.update S (Obj.mapBytearray (·.push n.toNat.toUInt8))).get? S = some { cls := .type "bytearray", data := .bytearray (byteArr (ns.take (i + 1))) } := by
      rw [byteArr_take hn]
      exact Heap.get?_update_self (Obj.mapBytearray (·.push n.toNat.toUInt8)) hS' rfl
    refine wpAny_lookBehind hS₂ ?_ ?_
    · show (if (byteArr (ns.take (i + 1))).size > sizeLine then some "bytearray:memory" else none) = none
      rw [if_neg]
      rw [byteArr_size, List.length_take]
      omega
    · have nI : ∀ b o, hb.get? b = some o → b ≠ I := fun b o q z => by rw [z, hbI] at q; cases q
      have nS : ∀ b o, hb.get? b = some o → b ≠ S := fun b o q z => by rw [z, hbS] at q; cases q
      refine wpAny_pure ⟨plainId_quiet F.bm_plain_loop _, ih (i + 1) { s with heap := h'.update S (Obj.mapBytearray (·.push n.toNat.toUInt8)) } (by omega) hlt (fun b o q => (Heap.get?_update_other _ _ (Ne.symm (nS b o q))).trans (hs.extBut b o (nI b o q) (hkb b o q))) ?_ ?_ hS₂ fun h3 t' k' hk3 => ?_⟩
      · exact (hl.extBut hs.extBut hlI).extBut (Heap.SameBut.update ..).extBut hlS
      · exact hit'.extBut (Heap.SameBut.update ..).extBut hIS
      · exact hR h3 t' k' fun b o hbI hbS e => hk3 b o hbI hbS ((Heap.get?_update_other _ _ (Ne.symm hbS)).trans (hs.extBut b o hbI e))
theorem bytes_newX {l : Addr} {vs : List Value} {ns : List Int} {Q : Value → Shared → Prop} (hA : A.handled = hd) (hc : ChainOk hd s.heap) (hl : s.heap.IsList l vs.toArray) (hi : IntsAre vs ns) (hr : ∀ n ∈ ns, 0 ≤ n ∧ n < 256) (hz : ns.length ≤ sizeLine)
    (hQ : ∀ h' t k, (∀ b o, s.heap.get? b = some o → h'.get? b = some o) → Q (.bytes (byteArr ns) t) { s with heap := h', toks := k }) :
    codeAny (model prog w) A (.call (.builtin "bytes.__new__") ⟨[.type "bytes", .ref l], []⟩) (wants Q E) s := by
  refine codeAny_of_tree ?_
  show wpAny _ A.in1 (do checkBuiltinCall "bytes.__new__" ⟨[.type "bytes", .ref l], []⟩; again (.builtin "bytes.__new__" ⟨[.type "bytes", .ref l], []⟩)) _ _ s
  refine wpAny_bind (wpAny_of_eq (F.bm_newCall _) (wpAny_pure ⟨plainId_quiet F.bm_plain _, codeAny_builtin F.bm_entry ?_⟩))
  rw [Around.under_plainId F.bm_plain _]
  have hT : s.TypeIs (.ref l) "list" := hl.typeIs
  obtain ⟨ol, hol, hoc, nl, hod⟩ := id hl
  unfold Builtin.«bytes.__new__»
  refine wpAny_bind (wpAny_of_eq (a := true) rfl ?_)
  refine bm_if_false rfl ?_
  refine wpAny_bind (wpAny_of_eq F.bm_sub ?_)
  refine bm_if_false rfl ?_
  refine wpAny_bind (wpAny_of_eq (F.bm_bind _) ?_)
  refine wpAny_bind (wpAny_of_eq (a := ()) rfl ?_)
  refine wpAny_bind (wpAny_of_eq (a := ()) rfl ?_)
  refine bm_if_false rfl ?_
  refine wpAny_bind (wpAny_specialOf hT F.bm_no_bytes ?_)
  refine wpAny_bind (wpAny_bind ?_)
  show wpAny _ _ (load l >>= _) _ _ _
  refine wpAny_bind (wpAny_load hol ?_)
  rw [hod]
  refine wpAny_pure (wpAny_pure ?_)
  refine bm_if_false rfl ?_
  refine wpAny_bind (wpAny_specialOf hT F.bm_no_index ?_)
  refine bm_if_true rfl ?_
  first
    | show wpAny _ _ (Builtin.Bytes.buffer? "bytes.__new__" (.ref l) true >>= _) _ _ _
    | (refine wpAny_bind ?_; show wpAny _ _ (Builtin.Bytes.buffer? "bytes.__new__" (.ref l) true >>= _) _ _ _)
  refine wpAny_bind ?_
  unfold Builtin.Bytes.buffer?
  refine wpAny_bind (wpAny_specialOf hT F.bm_no_buffer ?_)
  refine wpAny_bind (wpAny_specialOf hT F.bm_no_buffer ?_)
  refine wpAny_pure ?_
  refine wpAny_bind (wpAny_tryCatch (wpAny_pyIter_list hl ?_))
  have hl₁ : (s.heap.push { cls := .type "list_iterator", data := .fields #[.ref l, .int 0 0] }).IsList l vs.toArray := hl.push _
  have hT₁ : ({ s with heap := s.heap.push { cls := .type "list_iterator", data := .fields #[.ref l, .int 0 0] } } : Shared).TypeIs (.ref l) "list" := Heap.IsList.typeIs (s := { s with heap := s.heap.push { cls := .type "list_iterator", data := .fields #[.ref l, .int 0 0] } }) hl₁
  refine wpAny_bind (wpAny_holding ?_)
  unfold Builtin.Bytes.lengthHint
  refine wpAny_bind (wpAny_specialOf hT₁ slot_list_len.lookup ?_)
  dsimp only
  rw [F.bm_split]
  dsimp only
  refine wpAny_bind (wpAny_isInstance hT₁ F.bm_sub_list ?_)
  refine bm_if_false rfl ?_
  refine bm_if_true (by decide +kernel) ?_
  refine wpAny_pure ?_
  refine wpAny_bind ?_
  unfold Builtin.Bytes.newBytearray
  refine wpAny_newObj_type ?_ (Nat.zero_le _)
  have hI : ((s.heap.push { cls := .type "list_iterator", data := .fields #[.ref l, .int 0 0] }).push { cls := .type "bytearray", data := .bytearray #[] }).IsListIter s.heap.objs.size l 0 :=
    ⟨_, Heap.get?_push_of_some _ (Heap.get?_push_size _ rfl), rfl, rfl⟩
  have hlt : l < s.heap.objs.size := Heap.lt_size hol
  have hsz : (s.heap.push { cls := .type "list_iterator", data := .fields #[.ref l, .int 0 0] }).objs.size = s.heap.objs.size + 1 := Heap.size_push _ _
  have nge : ∀ a, s.heap.objs.size ≤ a → s.heap.get? a = none := fun a ha => by
    cases q : s.heap.get? a with
    | none => rfl
    | some o => exact absurd (Heap.lt_size q) (Nat.not_lt.mpr ha)
  have main := bytes_loopX (prog := prog) (w := w) (A := A) (R := wants Q E) (hb := s.heap) (l := l) (I := s.heap.objs.size) (S := (s.heap.push { cls := .type "list_iterator", data := .fields #[.ref l, .int 0 0] }).objs.size) hA hc (nge _ (Nat.le_refl _)) (nge _ (by rw [hsz]; exact Nat.le_succ _)) hi hr hz (by rw [hsz]; exact Nat.ne_of_lt (Nat.lt_succ_self _)) (Nat.ne_of_lt hlt) (by rw [hsz]; exact Nat.ne_of_lt (Nat.lt_succ_of_lt hlt))
    ns.length 0 { s with heap := (s.heap.push { cls := .type "list_iterator", data := .fields #[.ref l, .int 0 0] }).push { cls := .type "bytearray", data := .bytearray #[] } } rfl (Nat.zero_le _) (fun b o q => Heap.get?_push_of_some _ (Heap.get?_push_of_some _ q)) (hl₁.push _) hI (Heap.get?_push_size _ rfl)
    fun h' t k hk => hQ h' t k fun b o e => hk b o (Nat.ne_of_lt (Heap.lt_size e)) (by rw [hsz]; exact Nat.ne_of_lt (Nat.lt_succ_of_lt (Heap.lt_size e))) (Heap.get?_push_of_some _ (Heap.get?_push_of_some _ e))
  first
    | exact wpAny_pure ⟨plainId_quiet F.bm_plain_loop _, main⟩
    | exact wpAny_pure (wpAny_pure ⟨plainId_quiet F.bm_plain_loop _, main⟩)
theorem call_bytesX {l : Addr} {vs : List Value} {ns : List Int} {Q : Value → Shared → Prop} (hA : A.handled = hd) (hc : ChainOk hd s.heap) (hl : s.heap.IsList l vs.toArray) (hi : IntsAre vs ns) (hr : ∀ n ∈ ns, 0 ≤ n ∧ n < 256) (hz : ns.length ≤ sizeLine)
    (hQ : ∀ h' t k, (∀ b o, s.heap.get? b = some o → h'.get? b = some o) → Q (.bytes (byteArr ns) t) { s with heap := h', toks := k }) : wpAny (model prog w) A (call (.type "bytes") [.ref l]) Q E s := by
  refine callType_codes (Q₁ := fun obj s₁ => s₁.TypeIs obj "bytes" ∧ Q obj s₁) F.bm_called (F.bm_typeCall _) F.entry_object_init
    (bytes_newX hA hc hl hi hr hz fun h' t k hk => ⟨PySem.W.typeIs_bytes _ _ _, hQ h' t k hk⟩) fun obj s₁ h₁ => ?_
  exact ⟨h₁.1, F.args_object_init_2 obj _, object_init_meets F.bm_called.init.lookup F.bm_called.made (by decide) prog w A.in1 _ s₁ ⟨h₁.1, rfl, h₁.2⟩⟩
/-- the same over a frame and its ledger -/
theorem make_bytesX {D : Addr} {vs : List Value} {ns : List Int} {h₀ : Heap} {L : Addr} {m : Str → Option Value} {news : List (Addr × Obj)} {Q : Value → Shared → Prop} (F : Fr h₀ L s.heap m) (N : News h₀ L s.heap news) (hA : A.handled = hd) (hc : ChainOk hd s.heap) (hl : s.heap.IsList D vs.toArray) (hi : IntsAre vs ns) (hr : KBa.In ns) (hn : ns.length ≤ 16777216)
    (h : ∀ h' t' k, Fr h₀ L h' m → News h₀ L h' news → KBw.bInts (byteArr ns) = ns → Q (.bytes (byteArr ns) t') { s with heap := h', toks := k }) : wpAny (model prog w) A (call (.type "bytes") [.ref D]) Q E s :=
  call_bytesX hA hc hl hi hr (by rw [sizeLine_eq]; exact hn) fun h' t' k hk => h h' t' k (F.keeps hk) (fun q hq => ⟨hk _ _ (N q hq).1, (N q hq).2⟩) (KBa.ints_make hr)
end
section
variable {prog : Program} {w : World} {A : Around} {E : Value → Shared → Prop} {s : Shared} {hd : Option Value} {env : Env} {h₀ : Heap} {x : PySem.Str} {body : List Stmt} {Q : Flow → Shared → Prop}
/-- the handled chain, its objects being of a ledger -/
noncomputable def ChainL (hd : Option Value) (ch : List (Addr × Obj)) : Prop :=
  hd = none ∨ (∃ e o vs, hd = some (.ref e) ∧ (e, o) ∈ ch ∧ o.data = .fields vs ∧ vs[2]? = some .none) ∨
  (∃ e o vs e1 o1 vs1, hd = some (.ref e) ∧ (e, o) ∈ ch ∧ o.data = .fields vs ∧ vs[2]? = some (.ref e1) ∧ (e1, o1) ∈ ch ∧ o1.data = .fields vs1 ∧ vs1[2]? = some .none)
theorem ChainL.ok {hd : Option Value} {ch : List (Addr × Obj)} {h : Heap} (x : ChainL hd ch) (k : ∀ q ∈ ch, h.get? q.1 = some q.2) : ChainOk hd h := by
  rcases x with x | ⟨e, o, vs, x, a, b, c⟩ | ⟨e, o, vs, e1, o1, vs1, x, a, b, c, a1, b1, c1⟩
  · exact .inl x
  · exact .inr (.inl ⟨e, x, o, vs, k _ a, b, c⟩)
  · exact .inr (.inr ⟨e, e1, x, ⟨o, vs, k _ a, b, c⟩, ⟨o1, vs1, k _ a1, b1, c1⟩⟩)
theorem ChainL.more {hd : Option Value} {ch ch' : List (Addr × Obj)} (x : ChainL hd ch) (k : ∀ q ∈ ch, q ∈ ch') : ChainL hd ch' := by
  rcases x with x | ⟨e, o, vs, x, a, b, c⟩ | ⟨e, o, vs, e1, o1, vs1, x, a, b, c, a1, b1, c1⟩
  · exact .inl x
  · exact .inr (.inl ⟨e, o, vs, x, k _ a, b, c⟩)
  · exact .inr (.inr ⟨e, o, vs, e1, o1, vs1, x, k _ a, b, c, k _ a1, b1, c1⟩)
theorem ChainL.news {hd : Option Value} {ch : List (Addr × Obj)} {h₀ h : Heap} {L : Addr} (x : ChainL hd ch) (N : News h₀ L h ch) : ChainOk hd h := x.ok fun q hq => (N q hq).1
/-- a bytes' iterator while hd is handled; the handled chain is of the ledger -/
theorem walksX {ch : List (Addr × Obj)} (hA : A.handled = hd) (hc : ChainL hd ch) (I : Addr) (hI : I ∉ ch.map (·.1)) (b : Array UInt8) (t : Tok) :
    Walks prog w A I (I :: ch.map (·.1)) [I] b.size (fun i v => ∃ c u, b[i]? = some c ∧ v = .int (c.toNat : Int) u)
      (fun i h => KBw.IsBytesIter h I b t i ∧ ∀ q ∈ ch, h.get? q.1 = some q.2) where
  sub := fun b hb => by simp at hb; simp [hb]
  frame := fun _ _ _ st hk => by
    obtain ⟨⟨o, ho, r⟩, h3⟩ := st
    exact ⟨⟨o, hk I (by simp) o ho, r⟩, fun q hq => hk q.1 (.tail _ (List.mem_map_of_mem hq)) q.2 (h3 q hq)⟩
  item := fun i s Q E hi st hQ => by
    obtain ⟨st, h3⟩ := st
    refine KBw.next_item st (c := b[i]) (by simp [hi]) fun h' hit' hs' => ?_
    exact hQ _ h' (s.toks + 1) ⟨_, _, by simp [hi], rfl⟩ ⟨hit', fun q hq => hs'.extBut q.1 q.2 (fun z => hI (z ▸ List.mem_map_of_mem hq)) (h3 q hq)⟩ fun b o hb e => hs'.extBut b o (fun h => hb (by simp [h])) e
  done := fun s Q E st hQ => by
    obtain ⟨st, h3⟩ := st
    exact bytes_endX hA (hc.ok h3) st (by simp) fun h' he' => hQ h' s.toks fun b o hb e => he' b o (fun h => hb (by simp [h])) e
  self := fun _ _ _ _ st hQ => KBw.pyIter_self st.1 hQ
theorem loop_bytesX {σ : Type} {b : Array UInt8} {ks : List Int} {tb : Tok} {ch : List (Addr × Obj)} {m₀ : PySem.Str → Option Value} (Led : σ → List (Addr × Obj)) (ps : σ → List (PySem.Str × Value)) (Facts : σ → Prop) (stored : List PySem.Str) (P : List Int → σ → Prop) (c₀ : σ)
    (hb : KBw.bInts b = ks) (hA : A.handled = hd) (hc : ChainL hd ch) (hch : ∀ c, ∀ q ∈ ch, q ∈ Led c) (F : Fr h₀ env.locals s.heap m₀) (N : News h₀ env.locals s.heap (Led c₀)) (hf : Facts c₀) (hk : ∀ p ∈ ps c₀, m₀ p.1 = some p.2) (hp : P [] c₀)
    (turn : ∀ (c : σ) (pre post : List Int) (n : Int) t (u : PySem.Str → Option Value) h tk own, ks = pre ++ n :: post → pre.length < ks.length → 0 ≤ n → n < 256 → OwnOff own ((Led c₀).map (·.1)) → Facts c → P pre c →
      Fr h₀ env.locals h (fun y => if y = x then some (.int n t) else kstB (fun z => if stored.contains z then u z else m₀ z) (ps c) y) → News h₀ env.locals h (Led c ++ own) →
      wpAny (model prog w) A (execs body env) (InvPostN h₀ env.locals (KstS Led ps Facts x stored m₀ P (pre ++ [n])) own ((Led c₀).map (·.1)) { s with heap := h, toks := tk } Q) E { s with heap := h, toks := tk })
    (done : ∀ (c : σ) (u : PySem.Str → Option Value) h tk, Facts c → P ks c → Fr h₀ env.locals h (fun y => if y = x then u y else kstB (fun z => if stored.contains z then u z else m₀ z) (ps c) y) → News h₀ env.locals h (Led c) → Q .next { s with heap := h, toks := tk }) :
    wpAny (model prog w) A (pyIter (.bytes b tb)) (fun it s₂ => LoopAtV prog w A h₀ env x body Q E it s₂) E s := by
  subst hb
  refine KBw.pyIter_bytes ?_
  have hIch : s.heap.objs.size ∉ ch.map (·.1) := fun hm => by
    obtain ⟨q, hq, e⟩ := List.mem_map.mp hm
    exact absurd (Heap.lt_size (N q (hch c₀ q hq)).1) (by rw [e]; exact Nat.lt_irrefl _)
  have W := walksX (prog := prog) (w := w) hA hc s.heap.objs.size hIch b tb
  refine ⟨_, _, _, b.size, _, _, m₀, Led c₀, (fun i m nx => nx.map (·.1) = (Led c₀).map (·.1) ∧ KstS Led ps Facts x stored m₀ P ((KBw.bInts b).take i) m nx), rfl, W, ?_, ?_, ?_,
    ⟨⟨_, Heap.get?_push_size _ rfl, rfl, rfl⟩, fun q hq => Heap.get?_push_of_some _ (N q (hch c₀ q hq)).1⟩, F.push _, (fun p hp => ⟨Heap.get?_push_of_some _ (N p hp).1, (N p hp).2⟩), ⟨rfl, c₀, rfl, hf, hk, fun _ _ _ _ => rfl, by simpa using hp⟩, ?_, ?_⟩
  · intro hm
    rcases List.mem_cons.mp hm with e | hm
    · exact absurd F.ns.lt (e ▸ Nat.lt_irrefl _)
    · obtain ⟨q, hq, e⟩ := List.mem_map.mp hm
      exact (N q (hch c₀ q hq)).2.1 e
  · intro b' hb
    rw [List.mem_singleton.mp hb]
    exact next_is_new F
  · intro p hp hI
    exact absurd (Heap.lt_size (N p hp).1) ((List.mem_singleton.mp hI) ▸ Nat.lt_irrefl _)
  · rintro i v m₁ news₁ s₁ own ⟨hh', tk', rfl⟩ hin ⟨n, u, hn, rfl⟩ ⟨hadr, c, rfl, hf', h1, h2, hp'⟩ hoff hown hget hfp st₁ F₁ N₁
    have hsep : OwnOff (own.filter fun p => decide (p.1 = s.heap.objs.size)) ((Led c₀).map (·.1)) := by
      intro p hp b hb e
      obtain ⟨q, hq, rfl⟩ := List.mem_map.mp hb
      have h1 : p.1 = s.heap.objs.size := by simpa using (List.mem_filter.mp hp).2
      exact absurd (Heap.lt_size (N q hq).1) (by rw [← e, h1]; exact Nat.lt_irrefl _)
    have N₂ : News h₀ env.locals hh' (Led c ++ own.filter fun p => decide (p.1 = s.heap.objs.size)) := fun p hp => N₁ p ((List.mem_append.mp hp).elim (fun h => List.mem_append.mpr (.inr h)) fun h => List.mem_append.mpr (.inl ((List.mem_filter.mp h).1)))
    have hn' := KBw.ints_get hn
    have hs : (KBw.bInts b).take (i + 1) = (KBw.bInts b).take i ++ [(n.toNat : Int)] := by simp [List.take_add_one, hn']
    have e : KBw.bInts b = (KBw.bInts b).take i ++ (n.toNat : Int) :: (KBw.bInts b).drop (i + 1) := by
      have ht := List.take_append_drop (i + 1) (KBw.bInts b)
      rw [hs, List.append_assoc] at ht
      exact ht.symm
    have hb := KBw.ints_in (List.mem_of_getElem? hn')
    have hlt : ((KBw.bInts b).take i).length < (KBw.bInts b).length := by
      have h9 := congrArg List.length e
      rw [List.length_append, List.length_cons] at h9
      omega
    dsimp only
    rw [hs]
    refine wpAny_mono (turn c _ _ (n.toNat : Int) u m₁ hh' tk' _ e hlt hb.1 hb.2 hsep hf' hp' (kst_fr h1 h2 F₁) N₂) (fun f s₂ p => ?_) fun _ _ e => e
    have fin : InvEndN h₀ env.locals (KstS Led ps Facts x stored m₀ P ((KBw.bInts b).take i ++ [(n.toNat : Int)])) (own.filter fun p => decide (p.1 = s.heap.objs.size)) ((Led c₀).map (·.1)) { s with heap := hh', toks := tk' } s₂ →
        LoopStepU h₀ env.locals [s.heap.objs.size] own (fun m nx => nx.map (·.1) = (Led c₀).map (·.1) ∧ KstS Led ps Facts x stored m₀ P ((KBw.bInts b).take i ++ [(n.toNat : Int)]) m nx) { s with heap := hh', toks := tk' } .next s₂ := by
      rintro ⟨h', tk, m', news', nx, e, F', N', hn, ho, ha, hm⟩
      have hnx : ∀ q ∈ ch, q ∈ nx := by
        obtain ⟨c', rfl, _⟩ := hm
        exact hch c'
      refine ⟨rfl, h', tk, m', nx, e, F', fun p hp => ?_, fun p hp => ?_, ha, hm⟩
      · rcases List.mem_append.mp hp with h | h
        · by_cases hI : p.1 = s.heap.objs.size
          · exact N' p (ho p (List.mem_filter.mpr ⟨h, by simpa using hI⟩))
          · have h1 : p.1 ∈ ch.map (·.1) := by
              rcases List.mem_cons.mp (hown p h) with h2 | h2
              · exact absurd h2 hI
              · exact h2
            obtain ⟨q, hq, e1⟩ := List.mem_map.mp h1
            have h2 : hh'.get? p.1 = some p.2 := hget p h
            have h3 : hh'.get? q.1 = some q.2 := st₁.2 q hq
            rw [← e1, h3] at h2
            have h4 : p = q := Prod.ext e1.symm (Option.some.inj h2).symm
            rw [h4]
            exact N' q (hn q (hnx q hq))
        · exact N' p (hn p h)
      · have h1 : p.1 ∈ nx.map (·.1) := List.mem_map.mpr ⟨p, hp, rfl⟩
        rw [ha] at h1
        obtain ⟨q, hq, e⟩ := List.mem_map.mp h1
        intro hI
        exact absurd (Heap.lt_size (N q hq).1) (by rw [e, List.mem_singleton.mp hI]; exact Nat.lt_irrefl _)
    cases f with
    | ret v => exact .ret p
    | brk => exact .brk p
    | next => exact .next (fin p)
    | cont => exact .cont (fin p)
  · rintro h' tk m' news' F' N' _ ⟨_, c, rfl, hf', h1, h2, hp'⟩
    have h8 : b.size = (KBw.bInts b).length := (KBw.ints_length b).symm
    rw [h8, List.take_length] at hp'
    exact done c m' h' tk hf' hp' (kst_frOut h1 h2 F') N'
end

section
variable {M : Model} {A : Around} {E : Value → Shared → Prop} {env : Env}
variable {nm q : Str} {C N : Addr} {bs bm bmB : List Value} {hdct : Bool} {sn : List Str} {sub : List Value} {ab : Bool} {col : Option Bool} {dd : Option Addr} {k0 k1 k2 k3 k5 : Option Value} {B newId initId : String} {hd : Option Value}
theorem raiseStmtX {prog : Program} {w : World} {s : Shared} {x : Sem Value} {Q : Flow → Shared → Prop} (hbase : bm.contains (.type "BaseException") = true) (hA : A.handled = hd)
    (h : wpAny (model prog w) A x (fun v s₁ => ∃ e t hb, v = .ref e ∧ s₁.heap.get? C = some (excClassObj nm q C N bs bm hdct sn sub ab col dd k0 k1 k2 k3 k5 newId) ∧
      s₁.heap.get? e = some { cls := .ref C, data := .fields #[.ref t, .none, .none, .none, .bool false, .none] } ∧ ChainOk hd hb ∧ (∀ b o, hb.get? b = some o → s₁.heap.get? b = some o) ∧ hb.get? e = none ∧
      ∀ h', (∀ b o, b ≠ e → s₁.heap.get? b = some o → h'.get? b = some o) → h'.get? e = some { cls := .ref C, data := .fields #[.ref t, .none, hd.getD .none, .none, .bool false, .none] } → E (.ref e) { s₁ with heap := h' }) E s) :
    wpAny (model prog w) A (raiseStmt env (some x) none) Q E s := by
  have hcB : (Value.ref C :: bm).contains (.type "BaseException") = true := by rw [List.contains_cons, hbase, Bool.or_true]
  unfold raiseStmt
  refine wpAny_bind (wpAny_mono h (fun v s₁ h₁ => ?_) fun _ _ x => x)
  obtain ⟨e, t, hb, rfl, hC, he, hc, hkb, hbe, hE⟩ := h₁
  obtain ⟨hp, g, d, tk, os⟩ := s₁
  repeat (first | with_reducible refine wpAny_loadPart_at he ?_ | with_reducible refine wpAny_loadPart_at hC ?_ | (with_reducible refine wpAny_isSubtype_exc hC ?_; rw [hcB]) | wp_step)
  refine raiseNewX hA hc hkb hbe he rfl (by simp) (by rfl) fun h' hk ⟨o', ho', c1, c2, c3, c4⟩ => hE h' hk ?_
  rw [ho']
  obtain ⟨_, _, _, _⟩ := o'
  simp only at c1 c2 c3 c4
  subst c1 c2 c3 c4
  rfl
theorem Raise_callX {prog : Program} {w : World} {s : Shared} (F : ExcBaseFacts B newId initId bmB) {mN : Str → Option Value} {x : Str} {np cpos pos : Pos} {args : List Expr} {Q : Flow → Shared → Prop}
    (hbase : bm.contains (.type "BaseException") = true) (hA : A.handled = hd) (hplain : (backTo cpos (starEach args env)).any (·.1) = false) (hni : mN "__init__" = none)
    (h : wpAny (model prog w) A (eval (.Name x np) env) (fun f s₁ => f = .ref C ∧ wpAny (model prog w) A (evalArgs (.ref C) true (backTo cpos (starEach args env)) [])
      (fun a s₂ => a.kw = [] ∧ a.pos.length ≤ sizeLine ∧ s₂.heap.get? C = some (excClassObj nm q C N bs bm hdct sn sub ab col dd k0 k1 k2 k3 k5 newId) ∧ s₂.heap.Ns N mN ∧ OwnTail s₂.heap bmB bm ∧ ChainOk hd s₂.heap ∧
        ∀ h' e, MadeX s₂.heap h' e (.ref C) (hd.getD .none) → E (.ref e) { s₂ with heap := h' }) E s₁) E s) :
    wpAny (model prog w) A (exec (.Raise (some (.Call (.Name x np) args [] cpos)) none pos) env) Q E s := by
  rw [arm_exec_Raise]
  refine wpAny_bind (wpAny_standAt (raiseStmtX (C := C) (nm := nm) (q := q) (N := N) (bs := bs) (bm := bm) (hdct := hdct) (sn := sn) (sub := sub) (ab := ab) (col := col) (dd := dd) (k0 := k0) (k1 := k1) (k2 := k2) (k3 := k3) (k5 := k5) (newId := newId) hbase hA (wpAny_bind (wpAny_mono (wpAny_Call_ofName (wpAny_mono h (fun f s₁ h₁ => ?_) fun _ _ x => x)) (fun v s₃ h₃ => wpAny_bind (wpAny_standAt (wpAny_pure h₃))) fun _ _ x => x))))
  obtain ⟨rfl, h₁⟩ := h₁
  unfold callWith
  refine wpAny_bind (wpAny_holding (wpAny_mono h₁ (fun a s₂ h₂ => wpAny_bind (wpAny_standAt ?_)) fun _ _ x => x))
  obtain ⟨apos, akw⟩ := a
  obtain ⟨hkw, hlen, hC, hn, T, hc, h₂⟩ := h₂
  obtain rfl : akw = [] := hkw
  obtain ⟨hp, g, d, tk, os⟩ := s₂
  simp only [hplain]
  refine wpAny_bind (wpAny_keeperOf_exc hC ?_)
  refine wpAny_bind (wpAny_call_exc_subT (hrest := hlen) F T hC hn hni fun h' e hm => wpAny_bind (wpAny_holding (wpAny_point (wpAny_pure ?_))))
  obtain ⟨t, ht, _, _⟩ := hm.there
  exact ⟨e, t, hp, rfl, hm.keeps _ _ hC, ht, hc, hm.keeps, hm.new, fun h'' hk he => h₂ h'' e ⟨fun b o q => hk b o (fun z => by have := hm.new; rw [← z, q] at this; cases this) (hm.keeps b o q), hm.new, ⟨_, he⟩⟩⟩
end
section
variable {prog : Program} {w : World} {A : Around} {E : Value → Shared → Prop} {s : Shared} {name : Str} {scope : Scope} {L a : Addr} {cd : Value} {h₀ : Heap} {m mg : Str → Option Value} {hd : Option Value} {ch : List (Addr × Obj)}
  {x : Str} {C : Addr} {B newId initId : String} {bm : List Value} {np cpos pos : Pos} {Q : Flow → Shared → Prop}
/-- raise of an own exception, with arguments, while hd is handled -/
theorem Raise_ownX {e₀ : Expr} {rest : List Expr} (F : Fr h₀ L s.heap m) (hg : h₀.Ns mainGlobals mg) (O : OwnCls x C bm newId mg h₀) (FB : ExcBaseFacts B newId initId bm) (hA : A.handled = hd)
    (h : wpAny (model prog w) A (spliced (backTo cpos (starEach (e₀ :: rest) (envOf name scope L a cd)))) (fun vs s₂ => vs.length ≤ sizeLine ∧ (∀ b o, h₀.get? b = some o → s₂.heap.get? b = some o) ∧ ChainOk hd s₂.heap ∧
      ∀ h' e, MadeX s₂.heap h' e (.ref C) (hd.getD .none) → E (.ref e) { s₂ with heap := h' }) E s)
    (he : starEach (e₀ :: rest) (envOf name scope L a cd) = (false, eval e₀ (envOf name scope L a cd)) :: starEach rest (envOf name scope L a cd) := by rfl)
    (hplain : (backTo cpos (starEach rest (envOf name scope L a cd))).any (·.1) = false := by rfl)
    (hk : scope.kind = .function := by rfl) (hx : (envOf name scope L a cd).kindOf x = some .globalImplicit := by rfl) (hd' : (x == ("__debug__" : Str)) = false := by decide) :
    wpAny (model prog w) A (exec (.Raise (some (.Call (.Name x np) (e₀ :: rest) [] cpos)) none pos) (envOf name scope L a cd)) Q E s := by
  obtain ⟨tl, N, nm, q, bs, hdct, sn, sub, ab, col, dd, k0, k1, k2, k3, k5, mN, hC, hN, hni, T⟩ := O.obj
  refine Raise_callX (C := C) (nm := nm) (q := q) (N := N) (bs := bs) (bm := tl) (hdct := hdct) (sn := sn) (sub := sub) (ab := ab) (col := col) (dd := dd) (k0 := k0) (k1 := k1) (k2 := k2) (k3 := k3) (k5 := k5)
    FB (mN := mN) (T.hasType FB.hasBase) hA (by rw [he]; show (false || (backTo cpos (starEach rest (envOf name scope L a cd))).any (·.1)) = false; rw [hplain]; rfl) hni (ld_own F hg O ⟨rfl, ?_⟩ hk hx hd')
  rw [he] at h ⊢
  exact Calls.evalArgs_plain (wpAny_mono h (fun vs s₂ h₂ => ⟨rfl, h₂.1, h₂.2.1 _ _ hC, hN.keeps h₂.2.1, T.keeps h₂.2.1, h₂.2.2.1, h₂.2.2.2⟩) fun _ _ y => y)
end
end Mine
end

section
open PySem PySem.W PyProof.Rows PySem.Calls PySem.Spec
namespace Mine
/-- what a2b_base64's loop keeps -/
structure St where
  out : List Int
  q : Int
  l : Int
  p : Int
  i : Int
noncomputable def St.init : St := ⟨[], 0, 0, 0, 0⟩
noncomputable def pushA (st : St) (v : Int) : St :=
  if st.q = 0 then ⟨st.out, 1, v, 0, st.i + 1⟩
  else if st.q = 1 then ⟨st.out ++ [st.l * 4 + v / 16], 2, v % 16, 0, st.i + 1⟩
  else if st.q = 2 then ⟨st.out ++ [st.l * 16 + v / 4], 3, v % 4, 0, st.i + 1⟩
  else ⟨st.out ++ [st.l * 64 + v], 0, 0, 0, st.i + 1⟩
noncomputable def stepS (st : St) (c : Int) : Option St :=
  if c = 61 then (if 2 ≤ st.q ∧ st.q + (st.p + 1) ≤ 4 then some { st with p := st.p + 1, i := st.i + 1 } else none)
  else if 64 ≤ b64v c then none
  else if st.p ≠ 0 then none
  else some (pushA st (b64v c))
noncomputable def foldS : Option St → List Int → Option St
  | s, [] => s
  | s, c :: r => foldS (s.bind fun st => stepS st c) r
noncomputable def stepN (st : St) (c : Int) : St :=
  if c = 61 then { st with p := st.p + 1, i := st.i + 1 } else if 64 ≤ b64v c then { st with i := st.i + 1 } else pushA st (b64v c)
noncomputable def endA (st : St) : Option (List Int) :=
  if st.q = 1 then none else if st.q ≠ 0 ∧ st.q + st.p < 4 then none else some st.out
noncomputable def decS (ks : List Int) : Option (List Int) := (foldS (some .init) ks).bind endA
noncomputable def decN (ks : List Int) : Option (List Int) := endA (ks.foldl stepN .init)
theorem foldS_none : ∀ ks, foldS none ks = none
  | [] => rfl
  | _ :: r => foldS_none r
theorem foldS_append : ∀ (s : Option St) (a b : List Int), foldS s (a ++ b) = foldS (foldS s a) b
  | _, [], _ => rfl
  | s, c :: a, b => foldS_append _ a b
theorem foldS_snoc (s : Option St) (a : List Int) (c : Int) : foldS s (a ++ [c]) = (foldS s a).bind fun st => stepS st c := by rw [foldS_append]; rfl
theorem bits1_n : ∀ l : Fin 64, ∀ v : Fin 64, Builtin.bitOr ((l.val : Int) * 4) ((v.val : Int) / 16) = (l.val : Int) * 4 + (v.val : Int) / 16 := by decide +kernel
theorem bits2_n : ∀ l : Fin 16, ∀ v : Fin 64, Builtin.bitOr ((l.val : Int) * 16) ((v.val : Int) / 4) = (l.val : Int) * 16 + (v.val : Int) / 4 := by decide +kernel
theorem bits3_n : ∀ l : Fin 4, ∀ v : Fin 64, Builtin.bitOr ((l.val : Int) * 64) (v.val : Int) = (l.val : Int) * 64 + (v.val : Int) := by decide +kernel
theorem and15_n : ∀ v : Fin 64, Builtin.bitAnd (v.val : Int) 15 = (v.val : Int) % 16 := by decide +kernel
theorem and3_n : ∀ v : Fin 64, Builtin.bitAnd (v.val : Int) 3 = (v.val : Int) % 4 := by decide +kernel
theorem fin_of {v k : Int} {n : Nat} (hn : (n : Int) = k) (h0 : 0 ≤ v) (h1 : v < k) : ∃ f : Fin n, ((f.val : Nat) : Int) = v := ⟨⟨v.toNat, by omega⟩, by show ((v.toNat : Nat) : Int) = v; omega⟩
theorem bits1 {l v : Int} (a : 0 ≤ l) (b : l < 64) (c : 0 ≤ v) (d : v < 64) : Builtin.bitOr (l * 2 ^ Int.toNat 2) (v.fdiv (2 ^ Int.toNat 4)) = l * 4 + v / 16 := by
  obtain ⟨f, rfl⟩ := fin_of (n := 64) rfl a b
  obtain ⟨g, rfl⟩ := fin_of (n := 64) rfl c d
  rw [← bits1_n f g, Int.fdiv_eq_ediv_of_nonneg _ (by decide)]
  rfl
theorem bits2 {l v : Int} (a : 0 ≤ l) (b : l < 16) (c : 0 ≤ v) (d : v < 64) : Builtin.bitOr (l * 2 ^ Int.toNat 4) (v.fdiv (2 ^ Int.toNat 2)) = l * 16 + v / 4 := by
  obtain ⟨f, rfl⟩ := fin_of (n := 16) rfl a b
  obtain ⟨g, rfl⟩ := fin_of (n := 64) rfl c d
  rw [← bits2_n f g, Int.fdiv_eq_ediv_of_nonneg _ (by decide)]
  rfl
theorem bits3 {l v : Int} (a : 0 ≤ l) (b : l < 4) (c : 0 ≤ v) (d : v < 64) : Builtin.bitOr (l * 2 ^ Int.toNat 6) v = l * 64 + v := by
  obtain ⟨f, rfl⟩ := fin_of (n := 4) rfl a b
  obtain ⟨g, rfl⟩ := fin_of (n := 64) rfl c d
  rw [← bits3_n f g]
  rfl
theorem and15 {v : Int} (c : 0 ≤ v) (d : v < 64) : Builtin.bitAnd v 15 = v % 16 := by
  obtain ⟨g, rfl⟩ := fin_of (n := 64) rfl c d
  exact and15_n g
theorem and3 {v : Int} (c : 0 ≤ v) (d : v < 64) : Builtin.bitAnd v 3 = v % 4 := by
  obtain ⟨g, rfl⟩ := fin_of (n := 64) rfl c d
  exact and3_n g
/-- the ranges -/
structure Rng (n : Nat) (st : St) : Prop where
  q0 : 0 ≤ st.q
  q4 : st.q < 4
  l0 : 0 ≤ st.l
  la : st.q = 0 → st.l = 0
  lb : st.q = 1 → st.l < 64
  lc : st.q = 2 → st.l < 16
  ld : st.q = 3 → st.l < 4
  p0 : 0 ≤ st.p
  pn : st.p ≤ n
  i0 : 0 ≤ st.i
  i1 : st.i ≤ n
  len : st.out.length ≤ n
  rng : ∀ x ∈ st.out, 0 ≤ x ∧ x < 256
theorem Rng.init {n : Nat} : Rng n St.init := ⟨by decide, by decide, by decide, fun _ => rfl, fun _ => by decide, fun _ => by decide, fun _ => by decide, by decide, by simp [St.init], by decide, by simp [St.init], by simp [St.init], fun _ h => nomatch h⟩
theorem snoc_rng {l : List Int} {v : Int} (h : ∀ x ∈ l, 0 ≤ x ∧ x < 256) (a : 0 ≤ v) (b : v < 256) : ∀ x ∈ l ++ [v], 0 ≤ x ∧ x < 256 := fun x hx => by
  rcases List.mem_append.mp hx with hx | hx
  · exact h x hx
  · rw [List.mem_singleton.mp hx]; exact ⟨a, b⟩
section
variable {n : Nat} {i l v : Int}
theorem up0 (h : 0 ≤ i) : 0 ≤ i + 1 := Int.le_trans h (Int.le_add_one (Int.le_refl _))
theorem up1 (h : i ≤ n) : i + 1 ≤ ((n + 1 : Nat) : Int) := Int.add_le_add_right h 1
theorem up2 {o : List Int} {x : Int} (h : o.length ≤ n) : (o ++ [x]).length ≤ n + 1 := by rw [List.length_append]; exact Nat.succ_le_succ h
theorem up3 (h : i ≤ n) : i ≤ ((n + 1 : Nat) : Int) := Int.le_trans h (Int.ofNat_le.mpr (Nat.le_succ n))
theorem e1 (a : 0 ≤ l) (b : l < 64) (c : 0 ≤ v) (d : v < 64) : 0 ≤ l * 4 + v / 16 ∧ l * 4 + v / 16 < 256 := by omega
theorem e2 (a : 0 ≤ l) (b : l < 16) (c : 0 ≤ v) (d : v < 64) : 0 ≤ l * 16 + v / 4 ∧ l * 16 + v / 4 < 256 := by omega
theorem e3 (a : 0 ≤ l) (b : l < 4) (c : 0 ≤ v) (d : v < 64) : 0 ≤ l * 64 + v ∧ l * 64 + v < 256 := by omega
theorem qq {q : Int} (a : 0 ≤ q) (b : q < 4) (z0 : ¬ q = 0) (z1 : ¬ q = 1) (z2 : ¬ q = 2) : q = 3 := by omega
end
theorem Rng.push {n : Nat} {st : St} {v : Int} (h : Rng n st) (a : 0 ≤ v) (b : v < 64) : Rng (n + 1) (pushA st v) := by
  obtain ⟨q0, q4, l0, la, lb, lc, ld, p0, pn, i0, i1, len, rng⟩ := h
  have z : (0 : Int) ≤ ((n + 1 : Nat) : Int) := Int.natCast_nonneg _
  unfold pushA
  by_cases z0 : st.q = 0
  · rw [if_pos z0]
    exact ⟨(by decide : (0 : Int) ≤ 1), (by decide : (1 : Int) < 4), a, fun h => absurd h (by decide : ¬ (1 : Int) = 0), fun _ => b, fun h => absurd h (by decide : ¬ (1 : Int) = 2), fun h => absurd h (by decide : ¬ (1 : Int) = 3), Int.le_refl _, z, up0 i0, up1 i1, Nat.le_succ_of_le len, rng⟩
  · rw [if_neg z0]
    by_cases z1 : st.q = 1
    · have hl := e1 l0 (lb z1) a b
      rw [if_pos z1]
      exact ⟨(by decide : (0 : Int) ≤ 2), (by decide : (2 : Int) < 4), Int.emod_nonneg _ (by decide), fun h => absurd h (by decide : ¬ (2 : Int) = 0), fun h => absurd h (by decide : ¬ (2 : Int) = 1), fun _ => Int.emod_lt_of_pos _ (by decide), fun h => absurd h (by decide : ¬ (2 : Int) = 3), Int.le_refl _, z, up0 i0, up1 i1, up2 len, snoc_rng rng hl.1 hl.2⟩
    · rw [if_neg z1]
      by_cases z2 : st.q = 2
      · have hl := e2 l0 (lc z2) a b
        rw [if_pos z2]
        exact ⟨(by decide : (0 : Int) ≤ 3), (by decide : (3 : Int) < 4), Int.emod_nonneg _ (by decide), fun h => absurd h (by decide : ¬ (3 : Int) = 0), fun h => absurd h (by decide : ¬ (3 : Int) = 1), fun h => absurd h (by decide : ¬ (3 : Int) = 2), fun _ => Int.emod_lt_of_pos _ (by decide), Int.le_refl _, z, up0 i0, up1 i1, up2 len, snoc_rng rng hl.1 hl.2⟩
      · have hl := e3 l0 (ld (qq q0 q4 z0 z1 z2)) a b
        rw [if_neg z2]
        exact ⟨(by decide : (0 : Int) ≤ 0), (by decide : (0 : Int) < 4), Int.le_refl _, fun _ => rfl, fun h => absurd h (by decide : ¬ (0 : Int) = 1), fun h => absurd h (by decide : ¬ (0 : Int) = 2), fun h => absurd h (by decide : ¬ (0 : Int) = 3), Int.le_refl _, z, up0 i0, up1 i1, up2 len, snoc_rng rng hl.1 hl.2⟩
theorem Rng.more {n : Nat} {st : St} (h : Rng n st) : Rng (n + 1) { st with i := st.i + 1 } := by
  obtain ⟨q0, q4, l0, la, lb, lc, ld, p0, pn, i0, i1, len, rng⟩ := h
  exact ⟨q0, q4, l0, la, lb, lc, ld, p0, up3 pn, up0 i0, up1 i1, Nat.le_succ_of_le len, rng⟩
theorem Rng.pad {n : Nat} {st : St} (h : Rng n st) : Rng (n + 1) { st with p := st.p + 1, i := st.i + 1 } := by
  obtain ⟨q0, q4, l0, la, lb, lc, ld, p0, pn, i0, i1, len, rng⟩ := h
  exact ⟨q0, q4, l0, la, lb, lc, ld, up0 p0, up1 pn, up0 i0, up1 i1, Nat.le_succ_of_le len, rng⟩
/-- what the walk asks, in its own order -/
noncomputable def Asked (pre out : List Int) (q l p i : Int) : Prop := 0 ≤ q ∧ q < 4 ∧ 0 ≤ l ∧ l < 64 ∧ 0 ≤ p ∧ p ≤ pre.length ∧ 0 ≤ i ∧ i ≤ pre.length ∧ out.length ≤ pre.length ∧ ∀ n ∈ out, 0 ≤ n ∧ n < 256
theorem Rng.asked {pre out : List Int} {q l p i : Int} (h : Rng pre.length ⟨out, q, l, p, i⟩) : Asked pre out q l p i := by
  obtain ⟨q0, q4, l0, la, lb, lc, ld, p0, pn, i0, i1, len, rng⟩ := h
  simp only at *
  refine ⟨q0, q4, l0, ?_, p0, pn, i0, i1, len, rng⟩
  rcases (by omega : q = 0 ∨ q = 1 ∨ q = 2 ∨ q = 3) with z | z | z | z
  · have := la z; omega
  · have := lb z; omega
  · have := lc z; omega
  · have := ld z; omega
section
variable {pre out : List Int} {q l p i n : Int}
theorem stepS_push (a : n ≠ 61) (b : ¬ 64 ≤ b64v n) (c : p = 0) : stepS ⟨out, q, l, p, i⟩ n = some (pushA ⟨out, q, l, p, i⟩ (b64v n)) := by
  unfold stepS
  rw [if_neg a, if_neg b, if_neg (by simp only; omega)]
end
end Mine
end

section
open PySem PySem.W PyProof.Rows PySem.Calls PySem.Spec
namespace Mine
noncomputable section
theorem cnt_lo {a : Nat} : 0 ≤ (a : Int).fdiv 3 * 4 + 1 := by rw [Int.fdiv_eq_ediv_of_nonneg _ (by decide)]; omega
theorem cnt_hi {a : Nat} (h : a ≤ 200) : (a : Int).fdiv 3 * 4 + 1 ≤ 1000 := by rw [Int.fdiv_eq_ediv_of_nonneg _ (by decide)]; omega
set_option maxRecDepth 100000 in
set_option maxHeartbeats 8000000 in
theorem mod_msg {prog : Program} {w : World} {A : Around} {E : Value → Shared → Prop} {s : Shared} {Q : Value → Shared → Prop} {a : Nat} {t u : Tok} (ha : a ≤ 200) (h : ∀ x t' k, Q (.str x t') { s with toks := k }) :
    wpAny (model prog w) A (binaryOp .Mod (.str (Str.ofString "Invalid base64-encoded string: number of data characters (%d) cannot be 1 more than a multiple of 4") t) (.int ((a : Int).fdiv 3 * 4 + 1) u)) Q E s := by
  have h0 := cnt_lo (a := a)
  have h1 := cnt_hi ha
  revert h0 h1
  generalize (a : Int).fdiv 3 * 4 + 1 = n
  intro h0 h1
  refine' KPc.mod_int ?kpcF ?kpcl ?kpch ?kpcm ?_
  case kpcF => kpc_eq
  case kpcl => omega
  case kpch => omega
  case kpcm => k_dflt kpc_run
  intro t' k
  exact h _ _ _
end
end Mine
end

section
open PySem PySem.W PyProof.Rows PySem.Calls PySem.Spec
namespace Mine
noncomputable def stepX (sm : Bool) (st : St) (c : Int) : Option St := bif sm then stepS st c else some (stepN st c)
noncomputable def foldX (sm : Bool) : Option St → List Int → Option St
  | s, [] => s
  | s, c :: r => foldX sm (s.bind fun st => stepX sm st c) r
noncomputable def decX (sm : Bool) (ks : List Int) : Option (List Int) := (foldX sm (some .init) ks).bind endA
theorem foldX_true : ∀ (s : Option St) (ks : List Int), foldX true s ks = foldS s ks
  | _, [] => rfl
  | _, _ :: r => foldX_true _ r
theorem foldX_false : ∀ (st : St) (ks : List Int), foldX false (some st) ks = some (ks.foldl stepN st)
  | _, [] => rfl
  | st, c :: r => foldX_false (stepN st c) r
theorem decX_true (ks : List Int) : decX true ks = decS ks := by unfold decX decS; rw [foldX_true]
theorem decX_false (ks : List Int) : decX false ks = decN ks := by unfold decX decN; rw [foldX_false]; rfl
theorem foldX_none (sm : Bool) : ∀ ks, foldX sm none ks = none
  | [] => rfl
  | _ :: r => foldX_none sm r
theorem foldX_append (sm : Bool) : ∀ (s : Option St) (a b : List Int), foldX sm s (a ++ b) = foldX sm (foldX sm s a) b
  | _, [], _ => rfl
  | s, c :: a, b => foldX_append sm _ a b
section
variable {sm : Bool} {pre out : List Int} {q l p i n : Int}
noncomputable def XInv (sm : Bool) (pre out : List Int) (q l p i : Int) : Prop := foldX sm (some .init) pre = some ⟨out, q, l, p, i⟩ ∧ Rng pre.length ⟨out, q, l, p, i⟩
theorem XInv.and (h : XInv sm pre out q l p i) : XInv sm pre out q l p i ∧ 0 ≤ q ∧ q < 4 ∧ 0 ≤ l ∧ l < 64 ∧ 0 ≤ p ∧ p ≤ pre.length ∧ 0 ≤ i ∧ i ≤ pre.length ∧ out.length ≤ pre.length ∧ ∀ n ∈ out, 0 ≤ n ∧ n < 256 := ⟨h, h.2.asked⟩
theorem XInv.start : XInv sm [] [] 0 0 0 0 := ⟨rfl, Rng.init⟩
theorem XInv.step {st : St} (h : XInv sm pre out q l p i) (hs : stepX sm ⟨out, q, l, p, i⟩ n = some st) (hr : Rng (pre.length + 1) st) : XInv sm (pre ++ [n]) st.out st.q st.l st.p st.i :=
  ⟨by rw [foldX_append, h.1]; exact hs, by rw [List.length_append]; exact hr⟩
theorem XInv.pad (h : XInv sm pre out q l p i) (a : n = 61) (b : 2 ≤ q) (c : q + (p + 1) ≤ 4) : XInv sm (pre ++ [n]) out q l (p + 1) (i + 1) :=
  h.step (st := ⟨out, q, l, p + 1, i + 1⟩) (by cases sm <;> unfold stepX <;> simp only [cond_true, cond_false] <;> (first | unfold stepS | unfold stepN) <;> rw [if_pos a]; rw [if_pos ⟨b, c⟩]) h.2.pad
theorem XInv.padL (h : XInv sm pre out q l p i) (a : n = 61) (b : sm = false) : XInv sm (pre ++ [n]) out q l (p + 1) (i + 1) :=
  h.step (st := ⟨out, q, l, p + 1, i + 1⟩) (by subst b; show some (stepN _ n) = _; unfold stepN; rw [if_pos a]) h.2.pad
theorem XInv.oth (h : XInv sm pre out q l p i) (a : n ≠ 61) (b : 64 ≤ b64v n) (c : sm = false) : XInv sm (pre ++ [n]) out q l p (i + 1) :=
  h.step (st := ⟨out, q, l, p, i + 1⟩) (by subst c; show some (stepN _ n) = _; unfold stepN; rw [if_neg a, if_pos b]) h.2.more
theorem stepX_push (a : n ≠ 61) (b : ¬ 64 ≤ b64v n) (c : p = 0 ∨ sm = false) : stepX sm ⟨out, q, l, p, i⟩ n = some (pushA ⟨out, q, l, p, i⟩ (b64v n)) := by
  cases sm with
  | false => show some (stepN _ n) = _; unfold stepN; rw [if_neg a, if_neg b]
  | true => exact stepS_push a b (c.resolve_right (fun h => nomatch h))
theorem XInv.q0 (h : XInv sm pre out q l p i) (a : n ≠ 61) (b : ¬ 64 ≤ b64v n) (c : p = 0 ∨ sm = false) (d : q = 0) : XInv sm (pre ++ [n]) out 1 (b64v n) 0 (i + 1) := by
  have e : pushA ⟨out, q, l, p, i⟩ (b64v n) = ⟨out, 1, b64v n, 0, i + 1⟩ := by unfold pushA; rw [if_pos d]
  have r := h.2.push (b64v_lo n) (Int.not_le.mp b)
  rw [e] at r
  exact h.step (by rw [stepX_push a b c, e]) r
theorem XInv.q1 (h : XInv sm pre out q l p i) (a : n ≠ 61) (b : ¬ 64 ≤ b64v n) (c : p = 0 ∨ sm = false) (d : q = 1) : XInv sm (pre ++ [n]) (out ++ [Builtin.bitOr (l * 2 ^ Int.toNat 2) ((b64v n).fdiv (2 ^ Int.toNat 4))]) 2 (Builtin.bitAnd (b64v n) 15) 0 (i + 1) := by
  have hv := b64v_lo n
  have hb := Int.not_le.mp b
  rw [bits1 h.2.l0 (h.2.lb d) hv hb, and15 hv hb]
  subst d
  exact h.step (by rw [stepX_push a b c]) (h.2.push hv hb)
theorem XInv.q2 (h : XInv sm pre out q l p i) (a : n ≠ 61) (b : ¬ 64 ≤ b64v n) (c : p = 0 ∨ sm = false) (d : q = 2) : XInv sm (pre ++ [n]) (out ++ [Builtin.bitOr (l * 2 ^ Int.toNat 4) ((b64v n).fdiv (2 ^ Int.toNat 2))]) 3 (Builtin.bitAnd (b64v n) 3) 0 (i + 1) := by
  have hv := b64v_lo n
  have hb := Int.not_le.mp b
  rw [bits2 h.2.l0 (h.2.lc d) hv hb, and3 hv hb]
  subst d
  exact h.step (by rw [stepX_push a b c]) (h.2.push hv hb)
theorem XInv.q3 (h : XInv sm pre out q l p i) (a : n ≠ 61) (b : ¬ 64 ≤ b64v n) (c : p = 0 ∨ sm = false) (d0 : q ≠ 0) (d1 : q ≠ 1) (d2 : q ≠ 2) : XInv sm (pre ++ [n]) (out ++ [Builtin.bitOr (l * 2 ^ Int.toNat 6) (b64v n)]) 0 0 0 (i + 1) := by
  have hv := b64v_lo n
  have hb := Int.not_le.mp b
  have d : q = 3 := by
    have hq := h.2.q0
    have hq' := h.2.q4
    simp only at hq hq'
    omega
  rw [bits3 h.2.l0 (h.2.ld d) hv hb]
  subst d
  exact h.step (by rw [stepX_push a b c]) (h.2.push hv hb)
theorem XInv.err {ks post : List Int} (h : XInv sm pre out q l p i) (hk : ks = pre ++ n :: post) (c : sm = true) (hs : stepS ⟨out, q, l, p, i⟩ n = none) : decX sm ks = none := by
  unfold decX
  rw [hk, foldX_append, h.1]
  show (foldX sm ((some (⟨out, q, l, p, i⟩ : St)).bind fun st => stepX sm st n) post).bind endA = none
  subst c
  show (foldX true (stepS ⟨out, q, l, p, i⟩ n) post).bind endA = none
  rw [hs, foldX_none]
  rfl
theorem err_pad (a : n = 61) (b : ¬ (2 ≤ q ∧ q + (p + 1) ≤ 4)) : stepS ⟨out, q, l, p, i⟩ n = none := by unfold stepS; rw [if_pos a, if_neg b]
theorem err_oth (a : n ≠ 61) (b : 64 ≤ b64v n) : stepS ⟨out, q, l, p, i⟩ n = none := by unfold stepS; rw [if_neg a, if_pos b]
theorem err_aft (a : n ≠ 61) (b : ¬ 64 ≤ b64v n) (c : p ≠ 0) : stepS ⟨out, q, l, p, i⟩ n = none := by unfold stepS; rw [if_neg a, if_neg b, if_pos c]
theorem XInv.end1 {ks : List Int} (h : XInv sm ks out q l p i) (a : q = 1) : decX sm ks = none := by
  unfold decX
  rw [h.1, Option.bind_some]
  unfold endA
  rw [if_pos a]
theorem XInv.end2 {ks : List Int} (h : XInv sm ks out q l p i) (a : q ≠ 1) (b : q ≠ 0) (c : q + p < 4) : decX sm ks = none := by
  unfold decX
  rw [h.1, Option.bind_some]
  unfold endA
  rw [if_neg a, if_pos ⟨b, c⟩]
theorem XInv.fin {ks : List Int} (h : XInv sm ks out q l p i) (a : q ≠ 1) (b : ¬ (q ≠ 0 ∧ q + p < 4)) : decX sm ks = some out := by
  unfold decX
  rw [h.1, Option.bind_some]
  unfold endA
  rw [if_neg a, if_neg b]
end
end Mine
end

section
open PySem PySem.W PyProof.Rows PySem.Calls PySem.Spec
set_option pp.deepTerms false
set_option pp.deepTerms.threshold 4
namespace Mine
noncomputable section
section
variable {w : World} {p : Program} {loose : List Str} {mean : ExcName → Option Value} {mg mb : Str → Option Value} {hd : Option Value} {dp un : Nat} {gd : Option (List Code)} {cn : Str} {cs : Scope} {a : Addr} {ccd : Value} {cl : List (Str × Addr)} {outer : List Env} {A₀ : Around} {base h₀ : Heap} {L : Addr} {m : Str → Option Value} {news : List (Addr × Obj)} {s : Shared} {Q E : Value → Shared → Prop}
theorem chain_in {hd : Option Value} {ch ch' : List (Addr × Obj)} {h₀ h : Heap} {L : Addr} (x : ChainL hd ch) (N : News h₀ L h ch') (k : ∀ q ∈ ch, q ∈ ch') : ChainOk hd h := (x.more k).news N
theorem News.head {h₀ h : Heap} {L a : Addr} {o : Obj} {news : List (Addr × Obj)} (N : News h₀ L h ((a, o) :: news)) : h.get? a = some o := (N _ (.head _)).1
theorem x_end {Q : Value → Shared → Prop} {sm : Bool} {ks out : List Int} {q l p i : Int} {t : Tok} {h' : Heap} {tk' : Nat} {s : Shared} {news' : List (Addr × Obj)} (hret : ∀ ls, decX sm ks = some ls → ∀ b t' h' tk', Fr h₀ L h' m → News h₀ L h' news → KBw.bInts b = ls → Q (.bytes b t') { s with heap := h', toks := tk' })
    (hP : XInv sm ks out q l p i) (F : Fr h₀ L h' m) (N : News h₀ L h' news') (hs : ∀ p ∈ news, p ∈ news') (a : q ≠ 1) (b : ¬ (q ≠ 0 ∧ q + p < 4)) : Q (.bytes (byteArr out) t) { s with heap := h', toks := tk' } :=
  hret out (hP.fin a b) _ t h' tk' F (fun p hp => N p (hs p hp)) (KBa.ints_make hP.2.rng)
set_option maxRecDepth 100000 in
set_option maxHeartbeats 8000000 in
theorem a2b (sm : Bool) (b : Array UInt8) (tb : Tok) (ks : List Int) (hb : KBw.bInts b = ks) (hn : ks.length ≤ 200) (B : Below A₀ base outer h₀) (F : Fr h₀ L s.heap m) (X : (Mine.hd.heap_39 w.params).In h₀) (N : News h₀ L s.heap news) (T : Top p loose mean mg mb h₀) (hk : cs.kind = .function) (hdp : dp + 3 < recursionLimit) (hun : un + 80 < cLine) (hc : ChainL hd news)
    (hret : ∀ ls, decX sm ks = some ls → ∀ b t' h' tk', Fr h₀ L h' m → News h₀ L h' news → KBw.bInts b = ls → Q (.bytes b t') { s with heap := h', toks := tk' })
    (hexc : decX sm ks = none → ∀ e g h' tk', Fr h₀ L g m → RaisedX base g (envX cn cs L a ccd cl :: outer) e (.ref 98) (hd.getD .none) news h' → g.UpToSlots h' → E (.ref e) { s with heap := h', toks := tk' }) :
    wpAny (model Challenge.rw_ko0015_01.row.prog w) (tA hd dp un gd cn cs L a ccd cl outer) (call (.ref 130) [.bytes b tb] [(Str.ofString "strict_mode", .bool sm)]) Q E s := by
  w_top off
  k_with_none
  k_with "k_room" => ((try simp only [depth_under_make, depth_under_kw, depth_in1, depth_deeper, depth_caller]); (try dsimp only [tA]); omega)
  k_with "call type:type" => (k_here; k_dflt (first | refine call_type_of (x := Value.bytes _ _) (Tx := "bytes") rfl (by decide) ?_ | refine call_type_of (x := Value.bool _) (Tx := "bool") rfl (by decide) ?_))
  k_with "call ref" => (k_here; (with_reducible show wpAny _ _ (call (Value.ref 108) _) _ _ _); (k_dflt (refine' ascii_buffer _ _ ?zk1 ?zk2 ?zk3 ?zk4 ?zk5 ?zk6 ?zk7 ?zk8 ?_; (case zk1 => k_asm); (case zk2 => k_asm); (case zk3 => k_asm); (case zk4 => k_asm); (case zk5 => k_asm); (case zk6 => exact rfl); (case zk7 => k_room); (case zk8 => ktr_units))); intro t' h' tk' F' N'; (try k_sweep); (try dsimp only))
  k_with "call ref" => (k_here; (with_reducible show wpAny _ _ (call (Value.ref 115) _) _ _ _); (k_dflt (refine' truth_b _ ?zk1 ?zk2 ?zk3 ?zk4 ?zk5 ?zk6 ?zk7 ?zk8 ?_; (case zk1 => k_asm); (case zk2 => k_asm); (case zk3 => k_asm); (case zk4 => k_asm); (case zk5 => k_asm); (case zk6 => exact rfl); (case zk7 => k_room); (case zk8 => ktr_units))); intro h' tk' F' N'; (try k_sweep); (try dsimp only))
  k_with "call ref" => (k_here; (with_reducible show wpAny _ _ (call (Value.ref 122) _) _ _ _); (k_dflt (refine' b64_value _ _ ?zk1 ?zk2 ?zk3 ?zk4 ?zk5 ?zk6 ?zk7 ?zk8 ?_; (case zk1 => k_asm); (case zk2 => k_asm); (case zk3 => k_asm); (case zk4 => k_asm); (case zk5 => k_asm); (case zk6 => exact rfl); (case zk7 => k_room); (case zk8 => ktr_units))); intro t' h' tk' F' N'; (try k_sweep); (try dsimp only))
  k_with "kst_facts" => ((try dsimp only); first | exact IntsAre.nil | exact IntsAre.append (by with_reducible assumption) (.cons _ _ .nil) | with_reducible assumption | fail "kst_facts own")
  k_with "leaving ref" => (k_here; k_dflt (refine' leave_newX ?zk1 ?zk0 ?zk2 ?zk3 ?_; (case zk0 => first | assumption | exact MadeX.of (by assumption)); (case zk1 => assumption); (case zk2 => assumption); (case zk3 => k_asm); k_whole); intro h' R' U'; (try dsimp only at R' U' ⊢))
  k_with "InvEndN" => ((rename News _ _ _ _ => nE'); (try simp only [List.push_toArray] at nE'); (k_dflt refine kst_end ⟨_, _, _, _, _, _, _, _, _, _, _⟩ (by assumption) nE' (by (try dsimp only); exact List.forall_mem_cons.mpr ⟨by k_mem, fun p9 h9 => by kst_mem⟩) (by intro p hp; kst_mem) (by rfl) (by kst_facts) (by kst_all) (by kst_same) (by kst_p)))
  k_with "binaryOp Mod str int" => (k_here; k_dflt (refine mod_msg (by omega) ?_); intro _ _ _)
  k_with "exec Raise some none" => (k_here; k_dflt (refine' Raise_ownX (hd := _) ?zF ?zg ?zO PySem.F.excBase_ValueError ?zh ?_ ?za ?zb ?zc ?zd ?ze; (case zF => k_asm); (case zg => exact TopRead.g (by k_asm)); (case zO => exact own_of_in (by k_asm) (by k_asm) (by k_is) (by k_exc)); (case zh => rfl); (case za => rfl); (case zb => rfl); (case zc => rfl); (case zd => rfl); (case ze => decide)); k_whole)
  k_with "ChainOk" => (k_dflt exact chain_in (by assumption) (by assumption) (fun q hq => by simp only [List.mem_cons, List.mem_append, hq, or_true, true_or]))
  k_with "call type:bytes" => (k_here; k_dflt (refine' make_bytesX ?zF ?zN ?zA ?zc ?zl ?zi ?zr ?zn ?_; (case zF => k_asm); (case zN => k_asm); (case zA => rfl); (case zc => exact chain_in (by assumption) (by assumption) (fun q hq => by simp only [List.mem_cons, List.mem_append, hq, or_true, true_or])); (case zl => exact ⟨_, (News.head (by assumption)), rfl, _, rfl⟩); (case zi => assumption); (case zr => assumption); (case zn => omega)); intro h' t' tk' F' N' e'; (try k_sweep); (try dsimp only))
  revert X; k_fill; intro X
  refine wpAny_call ?_
  k_dflt cell_enter
  (k_with "pyIter bytes" => (k_here; (rename Fr _ _ _ _ => lF'); (rename News _ _ _ _ => lN'); (with_unfolding_all refine' loop_bytesX (σ := (List Value × List Int × Nat × Int × Nat × Int × Nat × Int × Nat × Int × Nat)) (fun c => (_, W.listOf c.1.toArray c.2.2.1) :: news) (fun c => [(Str.ofString "quad_pos", .int c.2.2.2.1 c.2.2.2.2.1), (Str.ofString "leftchar", .int c.2.2.2.2.2.1 c.2.2.2.2.2.2.1), (Str.ofString "pads", .int c.2.2.2.2.2.2.2.1 c.2.2.2.2.2.2.2.2.1), (Str.ofString "i", .int c.2.2.2.2.2.2.2.2.2.1 c.2.2.2.2.2.2.2.2.2.2)]) (fun c => IntsAre c.1 c.2.1) [Str.ofString "this_ch"] (fun pre c => XInv sm pre c.2.1 c.2.2.2.1 c.2.2.2.2.2.1 c.2.2.2.2.2.2.2.1 c.2.2.2.2.2.2.2.2.2.1 ∧ 0 ≤ c.2.2.2.1 ∧ c.2.2.2.1 < 4 ∧ 0 ≤ c.2.2.2.2.2.1 ∧ c.2.2.2.2.2.1 < 64 ∧ 0 ≤ c.2.2.2.2.2.2.2.1 ∧ c.2.2.2.2.2.2.2.1 ≤ pre.length ∧ 0 ≤ c.2.2.2.2.2.2.2.2.2.1 ∧ c.2.2.2.2.2.2.2.2.2.1 ≤ pre.length ∧ c.2.1.length ≤ pre.length ∧ ∀ n ∈ c.2.1, 0 ≤ n ∧ n < 256) ⟨[], [], _, 0, _, 0, _, 0, _, 0, _⟩ hb rfl hc ?kch lF' lN' ?kf ?kk ?kp ?kturn ?kdone); (case kch => intro c q hq; exact List.mem_cons_of_mem _ hq); (case kf => exact IntsAre.nil); (case kk => kst_all); (case kp => exact XInv.start.and); (all_goals (try clear lF' lN')); (case' kturn => (rintro ⟨vs, ns, nn, quad_pos, qt, leftchar, lt, pads, pt, i, it⟩ kPre kPost kN kT kU kH kTk kOwn kEq kLen kLo kHi kOff kFacts kInv kFr kNews; (have kMark := kstMark); (try dsimp only [kstB] at kFr); (try dsimp only at kNews); (try dsimp only at kFacts); (try dsimp only at kInv); (try simp only [List.nil_append, List.cons_append, List.append_nil] at kNews); (try dsimp only at kOff); (try simp only [List.map_cons, List.map_nil] at kOff); (have kL := congrArg List.length kEq; simp only [List.length_append, List.length_cons] at kL); (obtain ⟨kI0, kI1, kI2, kI3, kI4, kI5, kI6, kI7, kI8, kI9, kI10⟩ := kInv); (have kLn := IntsAre.length kFacts); (try k_fold))); (case' kdone => (rintro ⟨vs, ns, nn, quad_pos, qt, leftchar, lt, pads, pt, i, it⟩ kU kH kTk kFacts kInv kFr kNews; (have kMark := kstMark); (try dsimp only [kstB] at kFr); (try dsimp only at kNews); (try dsimp only at kFacts); (try dsimp only at kInv); (try simp only [List.nil_append, List.cons_append, List.append_nil] at kNews); (obtain ⟨kI0, kI1, kI2, kI3, kI4, kI5, kI6, kI7, kI8, kI9, kI10⟩ := kInv); (have kLn := IntsAre.length kFacts); (try k_fold)))))
  (k_with "state" => with_reducible refine XInv.and ?_; first | with_reducible exact XInv.start | with_reducible exact XInv.pad (by assumption) (by assumption) (by assumption) (by assumption) | with_reducible exact XInv.padL (by assumption) (by assumption) (by first | assumption | exact Bool.eq_false_iff.mpr (by assumption)) | with_reducible exact XInv.oth (by assumption) (by assumption) (by assumption) (by first | assumption | exact Bool.eq_false_iff.mpr (by assumption)) | with_reducible exact XInv.q0 (by assumption) (by assumption) (by assumption) (by first | exact .inl (by assumption) | exact .inr (by first | assumption | exact Bool.eq_false_iff.mpr (by assumption))) (by assumption) | with_reducible exact XInv.q1 (by assumption) (by assumption) (by assumption) (by first | exact .inl (by assumption) | exact .inr (by first | assumption | exact Bool.eq_false_iff.mpr (by assumption))) (by assumption) | with_reducible exact XInv.q2 (by assumption) (by assumption) (by assumption) (by first | exact .inl (by assumption) | exact .inr (by first | assumption | exact Bool.eq_false_iff.mpr (by assumption))) (by assumption) | with_reducible exact XInv.q3 (by assumption) (by assumption) (by assumption) (by first | exact .inl (by assumption) | exact .inr (by first | assumption | exact Bool.eq_false_iff.mpr (by assumption))) (by assumption) (by assumption) (by assumption))
  k_steps
  all_goals first
    | exact x_end hret (by assumption) (by assumption) (by assumption) (by intro p hp; simp only [List.mem_cons, List.mem_append, hp, or_true, true_or]) (by omega) (by omega)
    | exact hexc (XInv.err (by assumption) kEq (by assumption) (by first | exact err_oth (by assumption) (by assumption) | exact err_aft (by assumption) (by assumption) (by assumption) | exact err_pad (by assumption) (by omega))) _ _ _ _ (by assumption) (RaisedX.less (by assumption) (by intro p hp; simp only [List.mem_cons, List.mem_append, hp, or_true, true_or])) (by assumption)
    | exact hexc (XInv.end1 (by assumption) (by omega)) _ _ _ _ (by assumption) (RaisedX.less (by assumption) (by intro p hp; simp only [List.mem_cons, List.mem_append, hp, or_true, true_or])) (by assumption)
    | exact hexc (XInv.end2 (by assumption) (by omega) (by omega) (by omega)) _ _ _ _ (by assumption) (RaisedX.less (by assumption) (by intro p hp; simp only [List.mem_cons, List.mem_append, hp, or_true, true_or])) (by assumption)
theorem a2b_strict (b : Array UInt8) (tb : Tok) (ks : List Int) (hb : KBw.bInts b = ks) (hn : ks.length ≤ 200) (B : Below A₀ base outer h₀) (F : Fr h₀ L s.heap m) (X : (Mine.hd.heap_39 w.params).In h₀) (N : News h₀ L s.heap news) (T : Top p loose mean mg mb h₀) (hk : cs.kind = .function) (hdp : dp + 3 < recursionLimit) (hun : un + 80 < cLine)
    (hret : ∀ ls, decS ks = some ls → ∀ b t' h' tk', Fr h₀ L h' m → News h₀ L h' news → KBw.bInts b = ls → Q (.bytes b t') { s with heap := h', toks := tk' })
    (hexc : decS ks = none → ∀ e g h' tk', Fr h₀ L g m → RaisedX base g (envX cn cs L a ccd cl :: outer) e (.ref 98) .none news h' → g.UpToSlots h' → E (.ref e) { s with heap := h', toks := tk' }) :
    wpAny (model Challenge.rw_ko0015_01.row.prog w) (tA none dp un gd cn cs L a ccd cl outer) (call (.ref 130) [.bytes b tb] [(Str.ofString "strict_mode", .bool true)]) Q E s :=
  a2b true b tb ks hb hn B F X N T hk hdp hun (.inl rfl) (by rw [decX_true]; exact hret) (by rw [decX_true]; exact hexc)
theorem a2b_lax (b : Array UInt8) (tb : Tok) (ks : List Int) (hb : KBw.bInts b = ks) (hn : ks.length ≤ 200) (B : Below A₀ base outer h₀) (F : Fr h₀ L s.heap m) (X : (Mine.hd.heap_39 w.params).In h₀) (N : News h₀ L s.heap news) (T : Top p loose mean mg mb h₀) (hk : cs.kind = .function) (hdp : dp + 3 < recursionLimit) (hun : un + 80 < cLine) (hc : ChainL hd news)
    (hret : ∀ ls, decN ks = some ls → ∀ b t' h' tk', Fr h₀ L h' m → News h₀ L h' news → KBw.bInts b = ls → Q (.bytes b t') { s with heap := h', toks := tk' })
    (hexc : decN ks = none → ∀ e g h' tk', Fr h₀ L g m → RaisedX base g (envX cn cs L a ccd cl :: outer) e (.ref 98) (hd.getD .none) news h' → g.UpToSlots h' → E (.ref e) { s with heap := h', toks := tk' }) :
    wpAny (model Challenge.rw_ko0015_01.row.prog w) (tA hd dp un gd cn cs L a ccd cl outer) (call (.ref 130) [.bytes b tb] [(Str.ofString "strict_mode", .bool false)]) Q E s :=
  a2b false b tb ks hb hn B F X N T hk hdp hun hc (by rw [decX_false]; exact hret) (by rw [decX_false]; exact hexc)
end
end
end Mine
end

section
open PySem PySem.W PyProof.Rows PySem.Calls PySem.Spec
set_option pp.deepTerms false
set_option pp.deepTerms.threshold 4
namespace Mine
noncomputable section
section
variable {w : World} {p : Program} {loose : List Str} {mean : ExcName → Option Value} {mg mb : Str → Option Value} {hd : Option Value} {dp un : Nat} {gd : Option (List Code)} {cn : Str} {cs : Scope} {a : Addr} {ccd : Value} {cl : List (Str × Addr)} {outer : List Env} {A₀ : Around} {base h₀ : Heap} {L : Addr} {m : Str → Option Value} {news : List (Addr × Obj)} {s : Shared} {Q E : Value → Shared → Prop}
set_option maxRecDepth 100000 in
set_option maxHeartbeats 8000000 in
theorem from_data (b : Array UInt8) (tb : Tok) (B : Below A₀ base outer h₀) (F : Fr h₀ L s.heap m) (X : (Mine.hd.heap_39 w.params).In h₀) (N : News h₀ L s.heap news) (T : Top p loose mean mg mb h₀) (hk : cs.kind = .function) (hdp : dp + 1 < recursionLimit) (hun : un + 8 < cLine)
    (hret : ∀ t' h' tk', Fr h₀ L h' m → News h₀ L h' news → Q (.bytes b t') { s with heap := h', toks := tk' }) :
    wpAny (model Challenge.rw_ko0015_01.row.prog w) (tA hd dp un gd cn cs L a ccd cl outer) (call (.ref 88) [.bytes b tb]) Q E s := by
  w_top off
  k_with_none
  k_with "k_room" => ((try simp only [depth_under_make, depth_under_kw, depth_in1, depth_deeper, depth_caller]); (try dsimp only [tA]); omega)
  revert X; k_fill; intro X
  refine wpAny_call ?_
  k_dflt cell_enter
  k_steps
  all_goals exact ret_bytes hret rfl (by assumption) (by assumption)
set_option maxRecDepth 100000 in
set_option maxHeartbeats 8000000 in
theorem b64d_strict (b : Array UInt8) (tb : Tok) (ks : List Int) (hb : KBw.bInts b = ks) (hn : ks.length ≤ 200) (B : Below A₀ base outer h₀) (F : Fr h₀ L s.heap m) (X : (Mine.hd.heap_39 w.params).In h₀) (N : News h₀ L s.heap news) (T : Top p loose mean mg mb h₀) (hk : cs.kind = .function) (hdp : dp + 4 < recursionLimit) (hun : un + 120 < cLine)
    (hret : ∀ ls, decS ks = some ls → ∀ b t' h' tk', Fr h₀ L h' m → News h₀ L h' news → KBw.bInts b = ls → Q (.bytes b t') { s with heap := h', toks := tk' })
    (hexc : decS ks = none → ∀ e g h' tk', Fr h₀ L g m → RaisedX base g (envX cn cs L a ccd cl :: outer) e (.ref 98) .none news h' → g.UpToSlots h' → E (.ref e) { s with heap := h', toks := tk' }) :
    wpAny (model Challenge.rw_ko0015_01.row.prog w) (tA none dp un gd cn cs L a ccd cl outer) (call (.ref 138) [.bytes b tb] [(Str.ofString "validate", .bool true)]) Q E s := by
  w_top off
  k_with_none
  k_with "k_room" => ((try simp only [depth_under_make, depth_under_kw, depth_in1, depth_deeper, depth_caller]); (try dsimp only [tA]); omega)
  k_with "call ref" => (k_here; (with_reducible show wpAny _ _ (call (Value.ref 88) _) _ _ _); (k_dflt (refine' from_data _ _ ?zk1 ?zk2 ?zk3 ?zk4 ?zk5 ?zk6 ?zk7 ?zk8 ?_; (case zk1 => k_asm); (case zk2 => k_asm); (case zk3 => k_asm); (case zk4 => k_asm); (case zk5 => k_asm); (case zk6 => exact rfl); (case zk7 => k_room); (case zk8 => ktr_units))); intro t' h' tk' F' N'; (try k_sweep); (try dsimp only))
  k_with "call ref" => (k_here; (with_reducible show wpAny _ _ (call (Value.ref 130) _ _) _ _ _); (k_dflt (refine' a2b_strict _ _ _ (by assumption) (by assumption) ?zk1 ?zk2 ?zk3 ?zk4 ?zk5 ?zk6 ?zk7 ?zk8 ?_ ?_; (case zk1 => k_asm); (case zk2 => k_asm); (case zk3 => k_asm); (case zk4 => k_asm); (case zk5 => k_asm); (case zk6 => exact rfl); (case zk7 => k_room); (case zk8 => ktr_units))); first | (intro hN e g h' tk' F' (R' : RaisedX _ _ _ _ _ _ _ _) U') | (intro ls hls b' t' h' tk' F' N' hb'))
  k_with "call ref" => (k_here; (with_reducible show wpAny _ _ (call (Value.ref 130) _ _) _ _ _); (k_dflt (refine' a2b_lax _ _ _ (by assumption) (by assumption) ?zk1 ?zk2 ?zk3 ?zk4 ?zk5 ?zk6 ?zk7 ?zk8 (by assumption) ?_ ?_; (case zk1 => k_asm); (case zk2 => k_asm); (case zk3 => k_asm); (case zk4 => k_asm); (case zk5 => k_asm); (case zk6 => exact rfl); (case zk7 => k_room); (case zk8 => ktr_units))); first | (intro hN e g h' tk' F' (R' : RaisedX _ _ _ _ _ _ _ _) U') | (intro ls hls b' t' h' tk' F' N' hb'))
  k_with "leaving ref" => (k_here; k_dflt (refine' leave_onX ?zk1 ?zk0 ?zk2 ?zk3 ?_; (case zk0 => assumption); (case zk1 => assumption); (case zk2 => assumption); (case zk3 => assumption); k_whole); intro h' R' U'; (try dsimp only at R' U' ⊢))
  revert X; k_fill; intro X
  refine wpAny_call ?_
  k_dflt (refine' code_def ?k1 ?k2 ?k3 ?k4 ?k5 ?kA ?kF ?kK ?k6 ?k7 ?k8 ?k9 ?kB ?_ ?c2 ?c3 ?c4 ?c5; (case kA => exact rfl); (case kF => exact rfl); (case kK => assumption); (case k1 => k_asm); (case k2 => k_asm); (case k3 => k_asm); (case k4 => k_asm); (case k5 => k_asm); (case k6 => k_is); (case k7 => k_is); (case k8 => ktr_room); (case k9 => exact binds_K (by k_in) rfl (by k_is) rfl rfl rfl); (case c5 => decide); (case kB => exact locs rfl); (case c2 => exact rfl); (case c3 => exact rfl); (case c4 => exact rfl); k_whole; intro g' L' h' FG' F' N' B' X' T'; (try dsimp only); (try k_lift B'); (try k_fold))
  k_steps
  all_goals first
    | exact hret _ (by assumption) _ _ _ _ (by assumption) (by assumption) (by assumption)
    | exact hexc (by assumption) _ _ _ _ (by assumption) (by assumption) (by assumption)
set_option maxRecDepth 100000 in
set_option maxHeartbeats 8000000 in
theorem b64d_lax (b : Array UInt8) (tb : Tok) (ks : List Int) (hb : KBw.bInts b = ks) (hn : ks.length ≤ 200) (B : Below A₀ base outer h₀) (F : Fr h₀ L s.heap m) (X : (Mine.hd.heap_39 w.params).In h₀) (N : News h₀ L s.heap news) (T : Top p loose mean mg mb h₀) (hk : cs.kind = .function) (hdp : dp + 4 < recursionLimit) (hun : un + 120 < cLine) (hc : ChainL hd news)
    (hret : ∀ ls, decN ks = some ls → ∀ b t' h' tk', Fr h₀ L h' m → News h₀ L h' news → KBw.bInts b = ls → Q (.bytes b t') { s with heap := h', toks := tk' })
    (hexc : decN ks = none → ∀ e g h' tk', Fr h₀ L g m → RaisedX base g (envX cn cs L a ccd cl :: outer) e (.ref 98) (hd.getD .none) news h' → g.UpToSlots h' → E (.ref e) { s with heap := h', toks := tk' }) :
    wpAny (model Challenge.rw_ko0015_01.row.prog w) (tA hd dp un gd cn cs L a ccd cl outer) (call (.ref 138) [.bytes b tb] [(Str.ofString "validate", .bool false)]) Q E s := by
  w_top off
  k_with_none
  k_with "k_room" => ((try simp only [depth_under_make, depth_under_kw, depth_in1, depth_deeper, depth_caller]); (try dsimp only [tA]); omega)
  k_with "call ref" => (k_here; (with_reducible show wpAny _ _ (call (Value.ref 88) _) _ _ _); (k_dflt (refine' from_data _ _ ?zk1 ?zk2 ?zk3 ?zk4 ?zk5 ?zk6 ?zk7 ?zk8 ?_; (case zk1 => k_asm); (case zk2 => k_asm); (case zk3 => k_asm); (case zk4 => k_asm); (case zk5 => k_asm); (case zk6 => exact rfl); (case zk7 => k_room); (case zk8 => ktr_units))); intro t' h' tk' F' N'; (try k_sweep); (try dsimp only))
  k_with "call ref" => (k_here; (with_reducible show wpAny _ _ (call (Value.ref 130) _ _) _ _ _); (k_dflt (refine' a2b_strict _ _ _ (by assumption) (by assumption) ?zk1 ?zk2 ?zk3 ?zk4 ?zk5 ?zk6 ?zk7 ?zk8 ?_ ?_; (case zk1 => k_asm); (case zk2 => k_asm); (case zk3 => k_asm); (case zk4 => k_asm); (case zk5 => k_asm); (case zk6 => exact rfl); (case zk7 => k_room); (case zk8 => ktr_units))); first | (intro hN e g h' tk' F' (R' : RaisedX _ _ _ _ _ _ _ _) U') | (intro ls hls b' t' h' tk' F' N' hb'))
  k_with "call ref" => (k_here; (with_reducible show wpAny _ _ (call (Value.ref 130) _ _) _ _ _); (k_dflt (refine' a2b_lax _ _ _ (by assumption) (by assumption) ?zk1 ?zk2 ?zk3 ?zk4 ?zk5 ?zk6 ?zk7 ?zk8 (by assumption) ?_ ?_; (case zk1 => k_asm); (case zk2 => k_asm); (case zk3 => k_asm); (case zk4 => k_asm); (case zk5 => k_asm); (case zk6 => exact rfl); (case zk7 => k_room); (case zk8 => ktr_units))); first | (intro hN e g h' tk' F' (R' : RaisedX _ _ _ _ _ _ _ _) U') | (intro ls hls b' t' h' tk' F' N' hb'))
  k_with "leaving ref" => (k_here; k_dflt (refine' leave_onX ?zk1 ?zk0 ?zk2 ?zk3 ?_; (case zk0 => assumption); (case zk1 => assumption); (case zk2 => assumption); (case zk3 => assumption); k_whole); intro h' R' U'; (try dsimp only at R' U' ⊢))
  revert X; k_fill; intro X
  refine wpAny_call ?_
  k_dflt (refine' code_def ?k1 ?k2 ?k3 ?k4 ?k5 ?kA ?kF ?kK ?k6 ?k7 ?k8 ?k9 ?kB ?_ ?c2 ?c3 ?c4 ?c5; (case kA => exact rfl); (case kF => exact rfl); (case kK => assumption); (case k1 => k_asm); (case k2 => k_asm); (case k3 => k_asm); (case k4 => k_asm); (case k5 => k_asm); (case k6 => k_is); (case k7 => k_is); (case k8 => ktr_room); (case k9 => exact binds_K (by k_in) rfl (by k_is) rfl rfl rfl); (case c5 => decide); (case kB => exact locs rfl); (case c2 => exact rfl); (case c3 => exact rfl); (case c4 => exact rfl); k_whole; intro g' L' h' FG' F' N' B' X' T'; (try dsimp only); (try k_lift B'); (try k_fold))
  k_steps
  all_goals first
    | exact hret _ (by assumption) _ _ _ _ (by assumption) (by assumption) (by assumption)
    | exact hexc (by assumption) _ _ _ _ (by assumption) (by assumption) (by assumption)
end
end
end Mine
end

section
open PySem PySem.W PyProof.Rows PySem.Calls PySem.Spec
namespace Mine
noncomputable def clo (ks : List Int) : Int := ks.foldl (fun c o => if isL o = true then 0 else if o = 61 then c + 1 else c) 0
theorem clo_snoc (ks : List Int) (o : Int) : clo (ks ++ [o]) = if isL o = true then 0 else if o = 61 then clo ks + 1 else clo ks := by unfold clo; rw [List.foldl_append]; rfl
noncomputable def numF (ks : List Int) : Int := ks.foldl (fun a o => a * 64 + b64v o) 0
theorem numF_snoc (ks : List Int) (o : Int) : numF (ks ++ [o]) = numF ks * 64 + b64v o := by unfold numF; rw [List.foldl_append]; rfl
noncomputable def valB (ks : List Int) : Int := ks.foldl (fun a o => a * 256 + o) 0
theorem valB_snoc (ks : List Int) (o : Int) : valB (ks ++ [o]) = valB ks * 256 + o := by unfold valB; rw [List.foldl_append]; rfl
noncomputable def mp (n : Nat) : List Int := if n % 4 = 0 then [] else List.replicate (4 - n % 4) 61
noncomputable def decB (ks : List Int) : List Int × List Addr := match decS (ks ++ mp ks.length) with
  | some ls => (ls, if ks.length % 4 = 0 then [] else [54])
  | none => match decN ks with
    | some ls => (ls, [66])
    | none => match decN (ks ++ [61, 61]) with
      | some ls => (ls, [66, 54])
      | none => (ks, [78])
/-- from a step behind a list to the whole list -/
theorem snoc_all {α β : Type} {f : β → α → β} {P : List α → β → Prop} {C : α → Prop} (hs : ∀ pre c b, C c → P pre b → P (pre ++ [c]) (f b c)) : ∀ (rest pre : List α) (b : β), (∀ c ∈ rest, C c) → P pre b → P (pre ++ rest) (rest.foldl f b)
  | [], pre, b, _, h => by rw [List.append_nil]; exact h
  | c :: rest, pre, b, hc, h => by
    have := snoc_all hs rest (pre ++ [c]) (f b c) (fun x hx => hc x (.tail _ hx)) (hs pre c b (hc c (.head _)) h)
    rw [List.append_assoc] at this
    exact this
noncomputable def stL (ls : List Int) : St := ls.foldl (fun st o => pushA st (b64v o)) .init
theorem stL_snoc (ls : List Int) (o : Int) : stL (ls ++ [o]) = pushA (stL ls) (b64v o) := by unfold stL; rw [List.foldl_append]; rfl
noncomputable def LI (ls : List Int) (st : St) : Prop := Rng ls.length st ∧ ∃ k : Nat,
  (st.q = 0 ∧ ls.length = 4 * k ∧ st.out.length = 3 * k ∧ numF ls = valB st.out) ∨ (st.q = 1 ∧ ls.length = 4 * k + 1 ∧ st.out.length = 3 * k ∧ numF ls = valB st.out * 64 + st.l) ∨
  (st.q = 2 ∧ ls.length = 4 * k + 2 ∧ st.out.length = 3 * k + 1 ∧ numF ls = valB st.out * 16 + st.l) ∨ (st.q = 3 ∧ ls.length = 4 * k + 3 ∧ st.out.length = 3 * k + 2 ∧ numF ls = valB st.out * 4 + st.l)
theorem isL_b {o : Int} (h : isL o = true) : b64v o < 64 := of_decide_eq_true h
theorem ar1 {V l v a b : Int} (h : v = 16 * a + b) : (V * 64 + l) * 64 + v = (V * 256 + (l * 4 + a)) * 16 + b := by omega
theorem ar2 {V l v a b : Int} (h : v = 4 * a + b) : (V * 16 + l) * 64 + v = (V * 256 + (l * 16 + a)) * 4 + b := by omega
theorem ar3 {V l v : Int} : (V * 4 + l) * 64 + v = V * 256 + (l * 64 + v) := by omega
theorem dm {v k : Int} : v = k * (v / k) + v % k := (Int.mul_ediv_add_emod v k).symm
theorem len1 (l : List Int) (c : Int) : (l ++ [c]).length = l.length + 1 := by rw [List.length_append]; rfl
theorem LI_step (pre : List Int) (c : Int) (st : St) (hc : isL c = true) (h : LI pre st) : LI (pre ++ [c]) (pushA st (b64v c)) := by
  obtain ⟨hr, k, h⟩ := h
  refine ⟨?_, ?_⟩
  · rw [len1]; exact hr.push (b64v_lo c) (isL_b hc)
  · rcases h with ⟨a, b, d, e⟩ | ⟨a, b, d, e⟩ | ⟨a, b, d, e⟩ | ⟨a, b, d, e⟩
    · have E : pushA st (b64v c) = ⟨st.out, 1, b64v c, 0, st.i + 1⟩ := by unfold pushA; rw [if_pos a]
      rw [E]
      exact ⟨k, .inr (.inl ⟨rfl, by rw [len1, b], d, by rw [numF_snoc, e]⟩)⟩
    · have E : pushA st (b64v c) = ⟨st.out ++ [st.l * 4 + b64v c / 16], 2, b64v c % 16, 0, st.i + 1⟩ := by unfold pushA; rw [a, if_neg (by decide), if_pos rfl]
      rw [E]
      exact ⟨k, .inr (.inr (.inl ⟨rfl, by rw [len1, b], by rw [len1, d], by rw [numF_snoc, e, valB_snoc]; exact ar1 dm⟩))⟩
    · have E : pushA st (b64v c) = ⟨st.out ++ [st.l * 16 + b64v c / 4], 3, b64v c % 4, 0, st.i + 1⟩ := by unfold pushA; rw [a, if_neg (by decide), if_neg (by decide), if_pos rfl]
      rw [E]
      exact ⟨k, .inr (.inr (.inr ⟨rfl, by rw [len1, b], by rw [len1, d], by rw [numF_snoc, e, valB_snoc]; exact ar2 dm⟩))⟩
    · have E : pushA st (b64v c) = ⟨st.out ++ [st.l * 64 + b64v c], 0, 0, 0, st.i + 1⟩ := by unfold pushA; rw [a, if_neg (by decide), if_neg (by decide), if_neg (by decide)]
      rw [E]
      exact ⟨k + 1, .inl ⟨rfl, by rw [len1, b]; rfl, by rw [len1, d]; rfl, by rw [numF_snoc, e, valB_snoc]; exact ar3⟩⟩
theorem LI_all (ls : List Int) (h : ∀ c ∈ ls, isL c = true) : LI ls (stL ls) := by
  have := snoc_all (f := fun st o => pushA st (b64v o)) (P := LI) (C := fun c => isL c = true) LI_step ls [] .init h ⟨Rng.init, 0, .inl ⟨rfl, rfl, rfl, rfl⟩⟩
  exact this
theorem pushA_same {st st' : St} (v : Int) (a : st.out = st'.out) (b : st.q = st'.q) (c : st.l = st'.l) : (pushA st v).out = (pushA st' v).out ∧ (pushA st v).q = (pushA st' v).q ∧ (pushA st v).l = (pushA st' v).l ∧ (pushA st v).p = 0 := by
  unfold pushA
  rw [a, b, c]
  repeat' split
  all_goals exact ⟨rfl, rfl, rfl, rfl⟩
noncomputable def NI (pre : List Int) (st : St) : Prop := st.out = (stL (pre.filter isL)).out ∧ st.q = (stL (pre.filter isL)).q ∧ st.l = (stL (pre.filter isL)).l ∧ st.p = clo pre ∧ 0 ≤ st.p
theorem isL_61 : isL 61 = false := by decide +kernel
theorem filt_no {pre : List Int} {c : Int} (h : isL c = false) : (pre ++ [c]).filter isL = pre.filter isL := by rw [List.filter_append, List.filter_cons_of_neg (by rw [h]; exact Bool.false_ne_true)]; exact List.append_nil _
theorem filt_yes {pre : List Int} {c : Int} (h : isL c = true) : (pre ++ [c]).filter isL = pre.filter isL ++ [c] := by rw [List.filter_append, List.filter_cons_of_pos h]; rfl
theorem NI_step (pre : List Int) (c : Int) (st : St) (_ : True) (h : NI pre st) : NI (pre ++ [c]) (stepN st c) := by
  obtain ⟨h1, h2, h3, h4, h5⟩ := h
  unfold NI
  rw [clo_snoc]
  by_cases a : c = 61
  · subst a
    rw [filt_no isL_61, isL_61, if_neg Bool.false_ne_true, if_pos rfl]
    unfold stepN
    rw [if_pos rfl]
    exact ⟨h1, h2, h3, by dsimp only; omega, by dsimp only; omega⟩
  · by_cases b : isL c = true
    · have hb := isL_b b
      rw [filt_yes b, if_pos b, stL_snoc]
      unfold stepN
      rw [if_neg a, if_neg (by omega)]
      obtain ⟨e1, e2, e3, e4⟩ := pushA_same (b64v c) h1 h2 h3
      exact ⟨e1, e2, e3, e4, by omega⟩
    · have b' := Bool.eq_false_iff.mpr b
      have hb : 64 ≤ b64v c := by
        have := of_decide_eq_false b'
        omega
      rw [filt_no b', if_neg b, if_neg a]
      unfold stepN
      rw [if_neg a, if_pos hb]
      exact ⟨h1, h2, h3, h4, h5⟩
theorem NI_all (ks : List Int) : NI ks (ks.foldl stepN .init) := by
  have := snoc_all (f := stepN) (P := NI) (C := fun _ => True) NI_step ks [] .init (fun _ _ => trivial) ⟨rfl, rfl, rfl, rfl, by decide⟩
  exact this
theorem decN_eq (ks : List Int) : decN ks = if (stL (ks.filter isL)).q = 1 then none else if (stL (ks.filter isL)).q ≠ 0 ∧ (stL (ks.filter isL)).q + clo ks < 4 then none else some (stL (ks.filter isL)).out := by
  obtain ⟨h1, h2, h3, h4, h5⟩ := NI_all ks
  unfold decN endA
  rw [h2, h4, h1]
/-- strict -/
theorem stepS_N {st st' : St} {c : Int} (h : stepS st c = some st') : stepN st c = st' := by
  unfold stepS at h
  unfold stepN
  by_cases a : c = 61
  · rw [if_pos a] at h ⊢
    split at h
    · exact Option.some.inj h
    · cases h
  · rw [if_neg a] at h ⊢
    by_cases b : 64 ≤ b64v c
    · rw [if_pos b] at h; cases h
    · rw [if_neg b] at h ⊢
      split at h
      · cases h
      · exact Option.some.inj h
noncomputable def SI (pre : List Int) (st : St) : Prop := pre = pre.filter isL ++ List.replicate (clo pre).toNat 61 ∧ (clo pre = 0 ∨ (2 ≤ st.q ∧ st.q + clo pre ≤ 4))
noncomputable def SO (pre : List Int) (o : Option St) : Prop := ∀ st, o = some st → NI pre st ∧ SI pre st
theorem SO_step (pre : List Int) (c : Int) (o : Option St) (h : SO pre o) : SO (pre ++ [c]) (o.bind fun st => stepS st c) := by
  intro st' e
  cases o with
  | none => cases e
  | some st =>
    rw [Option.bind_some] at e
    obtain ⟨hN, hS⟩ := h st rfl
    have hN' := NI_step pre c st trivial hN
    have e2 := stepS_N e
    rw [e2] at hN'
    refine ⟨hN', ?_⟩
    obtain ⟨n1, n2, n3, n4, n5⟩ := hN
    obtain ⟨s1, s2⟩ := hS
    unfold SI
    rw [clo_snoc]
    unfold stepS at e
    by_cases a : c = 61
    · subst a
      rw [if_pos rfl] at e
      split at e
      · next hh =>
        have e := Option.some.inj e
        subst e
        rw [filt_no isL_61, isL_61, if_neg Bool.false_ne_true, if_pos rfl]
        refine ⟨?_, .inr ⟨hh.1, by dsimp only; omega⟩⟩
        have hz : (clo pre + 1).toNat = (clo pre).toNat + 1 := by omega
        rw [hz, List.replicate_succ', ← List.append_assoc, ← s1]
      · cases e
    · rw [if_neg a] at e
      by_cases b : 64 ≤ b64v c
      · rw [if_pos b] at e; cases e
      · rw [if_neg b] at e
        split at e
        · cases e
        · next hp =>
          have hL : isL c = true := decide_eq_true (by omega)
          rw [filt_yes hL, if_pos hL]
          refine ⟨?_, .inl rfl⟩
          have hz : (clo pre).toNat = 0 := by omega
          rw [hz] at s1
          have : pre = pre.filter isL := by rw [List.replicate_zero, List.append_nil] at s1; exact s1
          show pre ++ [c] = pre.filter isL ++ [c] ++ []
          rw [List.append_nil, ← this]
theorem foldS_eq : ∀ (o : Option St) (ks : List Int), foldS o ks = ks.foldl (fun o c => o.bind fun st => stepS st c) o
  | _, [] => rfl
  | o, c :: r => foldS_eq _ r
theorem SO_all (ks : List Int) : SO ks (foldS (some .init) ks) := by
  rw [foldS_eq]
  have := snoc_all (f := fun o c => o.bind fun st => stepS st c) (P := SO) (C := fun _ => True) (fun pre c o _ h => SO_step pre c o h) ks [] (some .init) (fun _ _ => trivial) (fun st e => by
    cases e
    exact ⟨⟨rfl, rfl, rfl, rfl, by decide⟩, rfl, .inl rfl⟩)
  exact this
theorem foldS_letters : ∀ (ls : List Int) (st : St), st.p = 0 → (∀ c ∈ ls, isL c = true) → foldS (some st) ls = some (ls.foldl (fun st o => pushA st (b64v o)) st)
  | [], _, _, _ => rfl
  | c :: ls, st, hp, h => by
    have hL := h c (.head _)
    have hb := isL_b hL
    have h61 : c ≠ 61 := fun e => by rw [e, isL_61] at hL; cases hL
    have e : stepS st c = some (pushA st (b64v c)) := by unfold stepS; rw [if_neg h61, if_neg (by omega), if_neg (by omega)]
    show foldS ((some st).bind fun st => stepS st c) ls = _
    rw [Option.bind_some, e]
    exact foldS_letters ls _ (pushA_same (b64v c) (st' := st) rfl rfl rfl).2.2.2 (fun x hx => h x (.tail _ hx))
theorem foldS_pads : ∀ (j : Nat) (st : St), (j = 0 ∨ (2 ≤ st.q ∧ st.q + st.p + j ≤ 4)) → foldS (some st) (List.replicate j 61) = some { st with p := st.p + j, i := st.i + j }
  | 0, st, _ => by
    show some st = _
    simp
  | j + 1, st, h => by
    have h : 2 ≤ st.q ∧ st.q + st.p + (j + 1 : Nat) ≤ 4 := h.resolve_left (by omega)
    have e : stepS st 61 = some { st with p := st.p + 1, i := st.i + 1 } := by unfold stepS; rw [if_pos rfl, if_pos ⟨h.1, by omega⟩]
    show foldS ((some st).bind fun st => stepS st 61) (List.replicate j 61) = _
    rw [Option.bind_some, e, foldS_pads j { st with p := st.p + 1, i := st.i + 1 } (.inr ⟨h.1, by dsimp only; omega⟩)]
    have h1 : st.p + 1 + (j : Int) = st.p + ((j + 1 : Nat) : Int) := by omega
    have h2 : st.i + 1 + (j : Int) = st.i + ((j + 1 : Nat) : Int) := by omega
    dsimp only
    rw [h1, h2]
theorem stL_p (ls : List Int) (h : ∀ c ∈ ls, isL c = true) : (stL ls).p = 0 := by
  have := snoc_all (f := fun st o => pushA st (b64v o)) (P := fun _ st => st.p = 0) (C := fun c => isL c = true) (fun pre c st _ _ => (pushA_same (b64v c) (st := st) (st' := st) rfl rfl rfl).2.2.2) ls [] .init h rfl
  exact this
theorem ok_a {q p : Int} {j : Nat} (hp : p = 0) (a : (j = 0 ∧ q = 0) ∨ (2 ≤ q ∧ q + (j : Int) = 4)) : j = 0 ∨ (2 ≤ q ∧ q + p + j ≤ 4) := a.elim (fun h => .inl h.1) (fun h => .inr ⟨h.1, by rw [hp, Int.add_zero, h.2]; exact Int.le_refl _⟩)
theorem ok_b {q : Int} {j : Nat} (a : (j = 0 ∧ q = 0) ∨ (2 ≤ q ∧ q + (j : Int) = 4)) : q ≠ 1 := by omega
theorem ok_c {q p : Int} {j : Nat} (hp : p = 0) (a : (j = 0 ∧ q = 0) ∨ (2 ≤ q ∧ q + (j : Int) = 4)) : ¬ (q ≠ 0 ∧ q + (p + (j : Int)) < 4) := by omega
theorem decS_ok {ls : List Int} (h : ∀ c ∈ ls, isL c = true) (j : Nat) (a : (j = 0 ∧ (stL ls).q = 0) ∨ (2 ≤ (stL ls).q ∧ (stL ls).q + j = 4)) : decS (ls ++ List.replicate j 61) = some (stL ls).out := by
  have hp := stL_p ls h
  unfold decS
  rw [foldS_append, foldS_letters ls .init rfl h]
  show (foldS (some (stL ls)) _).bind endA = _
  rw [foldS_pads j (stL ls) (ok_a hp a), Option.bind_some]
  unfold endA
  rw [if_neg (ok_b a), if_neg (ok_c hp a)]
theorem filt_61 (ks : List Int) : ∀ j : Nat, (ks ++ List.replicate j 61).filter isL = ks.filter isL
  | 0 => by rw [List.replicate_zero, List.append_nil]
  | j + 1 => by rw [List.replicate_succ', ← List.append_assoc, filt_no isL_61, filt_61 ks j]
theorem clo_61 (ks : List Int) : ∀ j : Nat, clo (ks ++ List.replicate j 61) = clo ks + j
  | 0 => by rw [List.replicate_zero, List.append_nil]; omega
  | j + 1 => by
    rw [List.replicate_succ', ← List.append_assoc, clo_snoc, isL_61, if_neg Bool.false_ne_true, if_pos rfl, clo_61 ks j]
    omega
theorem clo_nn (ks : List Int) : 0 ≤ clo ks := by
  obtain ⟨h1, h2, h3, h4, h5⟩ := NI_all ks
  omega
noncomputable def digs (n : Int) (k : Nat) : List Int := (List.range k).map fun i => n / 256 ^ i % 256
theorem digs_succ (v x : Int) (h0 : 0 ≤ x) (h1 : x < 256) (k : Nat) : digs (v * 256 + x) (k + 1) = x :: digs v k := by
  unfold digs
  rw [List.range_succ_eq_map, List.map_cons, List.map_map]
  congr 1
  · rw [Int.pow_zero, Int.ediv_one]; omega
  · refine List.map_congr_left fun i _ => ?_
    show (v * 256 + x) / 256 ^ (i + 1) % 256 = v / 256 ^ i % 256
    rw [Int.pow_succ, Int.mul_comm (256 ^ i) 256, ← Int.ediv_ediv_of_nonneg (by decide)]
    have : (v * 256 + x) / 256 = v := by omega
    rw [this]
theorem digs_all (out : List Int) (h : ∀ x ∈ out, 0 ≤ x ∧ x < 256) : (digs (valB out) out.length).reverse = out := by
  have := snoc_all (f := fun (u : Unit) (_ : Int) => u) (P := fun pre _ => (digs (valB pre) pre.length).reverse = pre) (C := fun x => 0 ≤ x ∧ x < 256) (fun pre c _ hc hp => by
    show (digs (valB (pre ++ [c])) (pre ++ [c]).length).reverse = pre ++ [c]
    have hp : (digs (valB pre) pre.length).reverse = pre := hp
    rw [valB_snoc, List.length_append, List.length_cons, List.length_nil, digs_succ _ _ hc.1 hc.2, List.reverse_cons, hp]) out [] () h rfl
  exact this
noncomputable def ansO (ks : List Int) (wanted : Int) : List Int := (digs (numF (ks.filter isL) / 4 ^ wanted.toNat) ((ks.filter isL).length * 3 / 4)).reverse
/-- the last four's letters, and what it wants -/
noncomputable def WQ (w q : Int) : Prop := (q = 0 ∧ w = 0) ∨ (q = 1 ∧ w = 3) ∨ (q = 2 ∧ w = 2) ∨ (q = 3 ∧ w = 1)
theorem wq0 {n k : Nat} {w : Int} (hw : w = (-(n : Int)) % 4) (h : n = 4 * k) : w = 0 := by omega
theorem wq1 {n k : Nat} {w : Int} (hw : w = (-(n : Int)) % 4) (h : n = 4 * k + 1) : w = 3 := by omega
theorem wq2 {n k : Nat} {w : Int} (hw : w = (-(n : Int)) % 4) (h : n = 4 * k + 2) : w = 2 := by omega
theorem wq3 {n k : Nat} {w : Int} (hw : w = (-(n : Int)) % 4) (h : n = 4 * k + 3) : w = 1 := by omega
theorem tl0 {n k o : Nat} (h : n = 4 * k) (e : o = 3 * k) : n * 3 / 4 = o := by omega
theorem tl2 {n k o : Nat} (h : n = 4 * k + 2) (e : o = 3 * k + 1) : n * 3 / 4 = o := by omega
theorem tl3 {n k o : Nat} (h : n = 4 * k + 3) (e : o = 3 * k + 2) : n * 3 / 4 = o := by omega
theorem dv16 {V l : Int} (a : 0 ≤ l) (b : l < 16) : (V * 16 + l) / 16 = V := by omega
theorem dv4 {V l : Int} (a : 0 ≤ l) (b : l < 4) : (V * 4 + l) / 4 = V := by omega
theorem wq_of {ls : List Int} (h : ∀ c ∈ ls, isL c = true) {w : Int} (hw : w = (-(ls.length : Int)) % 4) : WQ w (stL ls).q := by
  obtain ⟨hr, k, ⟨a, b, d, e⟩ | ⟨a, b, d, e⟩ | ⟨a, b, d, e⟩ | ⟨a, b, d, e⟩⟩ := LI_all ls h
  · exact .inl ⟨a, wq0 hw b⟩
  · exact .inr (.inl ⟨a, wq1 hw b⟩)
  · exact .inr (.inr (.inl ⟨a, wq2 hw b⟩))
  · exact .inr (.inr (.inr ⟨a, wq3 hw b⟩))
theorem ansO_eq {ks : List Int} {wanted : Int} (hw : wanted = (-((ks.filter isL).length : Int)) % 4) (h3 : wanted ≠ 3) : ansO ks wanted = (stL (ks.filter isL)).out := by
  have hL := fun c (hc : c ∈ ks.filter isL) => (List.mem_filter.mp hc).2
  unfold ansO
  obtain ⟨hr, k, ⟨a, b, d, e⟩ | ⟨a, b, d, e⟩ | ⟨a, b, d, e⟩ | ⟨a, b, d, e⟩⟩ := LI_all (ks.filter isL) hL
  · rw [wq0 hw b, e, tl0 b d]
    show (digs (valB _ / 1) _).reverse = _
    rw [Int.ediv_one, digs_all _ hr.rng]
  · exact absurd (wq1 hw b) h3
  · rw [wq2 hw b, e, tl2 b d]
    show (digs (_ / 16) _).reverse = _
    rw [dv16 hr.l0 (hr.lc a), digs_all _ hr.rng]
  · rw [wq3 hw b, e, tl3 b d]
    show (digs (_ / 4) _).reverse = _
    rw [dv4 hr.l0 (hr.ld a), digs_all _ hr.rng]
noncomputable def ansK (ks : List Int) (wanted : Int) : List Addr := (if clo ks > wanted ∨ ks ≠ ks.filter isL ++ List.replicate (clo ks).toNat 61 then [66] else []) ++ if clo ks < wanted then [54] else []
theorem mp0 {n : Nat} (h : n % 4 = 0) : mp n = List.replicate 0 61 := by unfold mp; rw [if_pos h]; rfl
theorem mp1 {n r : Nat} (h : n % 4 = r) (z : r ≠ 0) : mp n = List.replicate (4 - r) 61 := by unfold mp; rw [h, if_neg z]
theorem mp_rep (n : Nat) : ∃ j, mp n = List.replicate j 61 := by
  by_cases z : n % 4 = 0
  · exact ⟨_, mp0 z⟩
  · exact ⟨_, mp1 rfl z⟩
/-- a right ending: how many equals signs the decoder puts behind, and when none -/
noncomputable def Right (n : Nat) (q : Int) (c w : Int) : Prop := ∃ j : Nat, mp n = List.replicate j 61 ∧ ((c.toNat + j = 0 ∧ q = 0) ∨ (2 ≤ q ∧ q + ((c.toNat + j : Nat) : Int) = 4)) ∧ (n % 4 = 0 ∧ ¬ c < w ∨ n % 4 ≠ 0 ∧ c < w)
theorem md (k r : Nat) (h : r < 4) : (4 * k + r) % 4 = r := by rw [Nat.mul_add_mod]; exact Nat.mod_eq_of_lt h
theorem c01 {c : Int} (a : 0 ≤ c) (b : c ≤ 1) : c = 0 ∨ c = 1 := by omega
theorem c02 {c : Int} (a : 0 ≤ c) (b : c ≤ 2) : c = 0 ∨ c = 1 ∨ c = 2 := by omega
theorem right_of {ls : List Int} (hL : ∀ c ∈ ls, isL c = true) {w c : Int} {n : Nat} (hw : w = (-(ls.length : Int)) % 4) (w3 : w ≠ 3) (c0 : 0 ≤ c) (cw : c ≤ w) (hn : n = ls.length + c.toNat) : Right n (stL ls).q c w := by
  obtain ⟨hr, k, ⟨a, b, d, e⟩ | ⟨a, b, d, e⟩ | ⟨a, b, d, e⟩ | ⟨a, b, d, e⟩⟩ := LI_all ls hL
  · have ew := wq0 hw b
    rw [ew] at cw
    have ec := Int.le_antisymm cw c0
    rw [ec, b] at hn
    have hm : n % 4 = 0 := by rw [hn]; exact md k 0 (by decide)
    rw [a, ec, ew]
    exact ⟨0, mp0 hm, .inl ⟨rfl, rfl⟩, .inl ⟨hm, by decide⟩⟩
  · exact absurd (wq1 hw b) w3
  · have ew := wq2 hw b
    rw [ew] at cw
    rw [a, ew]
    rcases c02 c0 cw with ec | ec | ec <;> rw [ec, b] at hn <;> rw [ec]
    · have hm : n % 4 = 2 := by rw [hn]; exact md k 2 (by decide)
      exact ⟨2, mp1 hm (by decide), .inr ⟨by decide, rfl⟩, .inr ⟨by rw [hm]; decide, by decide⟩⟩
    · have hm : n % 4 = 3 := by rw [hn]; exact md k 3 (by decide)
      exact ⟨1, mp1 hm (by decide), .inr ⟨by decide, rfl⟩, .inr ⟨by rw [hm]; decide, by decide⟩⟩
    · have hm : n % 4 = 0 := by rw [hn]; exact md (k + 1) 0 (by decide)
      exact ⟨0, mp0 hm, .inr ⟨by decide, rfl⟩, .inl ⟨hm, by decide⟩⟩
  · have ew := wq3 hw b
    rw [ew] at cw
    rw [a, ew]
    rcases c01 c0 cw with ec | ec <;> rw [ec, b] at hn <;> rw [ec]
    · have hm : n % 4 = 3 := by rw [hn]; exact md k 3 (by decide)
      exact ⟨1, mp1 hm (by decide), .inr ⟨by decide, rfl⟩, .inr ⟨by rw [hm]; decide, by decide⟩⟩
    · have hm : n % 4 = 0 := by rw [hn]; exact md (k + 1) 0 (by decide)
      exact ⟨0, mp0 hm, .inr ⟨by decide, rfl⟩, .inl ⟨hm, by decide⟩⟩
theorem z_add {c : Int} {j : Nat} (h : 0 ≤ c) : (c + (j : Int)).toNat = c.toNat + j := by omega
theorem bk1 {w q : Int} (W : WQ w q) (h : q ≠ 1) : w ≠ 3 := by unfold WQ at W; omega
theorem bk2 {w q c : Int} {j : Nat} (W : WQ w q) (c0 : 0 ≤ c) (s : c + (j : Int) = 0 ∨ (2 ≤ q ∧ q + (c + (j : Int)) ≤ 4)) : c ≤ w := by unfold WQ at W; omega
theorem n_a {w q : Int} (W : WQ w q) (h : w = 3) : q = 1 := by unfold WQ at W; omega
theorem n_b {w q : Int} (W : WQ w q) (h : w ≠ 3) : q ≠ 1 := by unfold WQ at W; omega
theorem n_c {w q c : Int} (W : WQ w q) (h : w ≠ 3) (c0 : 0 ≤ c) (z : c < w) : q ≠ 0 ∧ q + c < 4 := by unfold WQ at W; omega
theorem n_d {w q c : Int} (W : WQ w q) (h : w ≠ 3) (c0 : 0 ≤ c) (z : c < w) : ¬ (q ≠ 0 ∧ q + (c + (2 : Nat)) < 4) := by unfold WQ at W; omega
theorem n_e {w q c : Int} (W : WQ w q) (z : ¬ c < w) : ¬ (q ≠ 0 ∧ q + c < 4) := by unfold WQ at W; omega
theorem law_plain {ks : List Int} {wanted : Int} (hw : wanted = (-((ks.filter isL).length : Int)) % 4) : decB ks = if wanted = 3 then (ks, [78]) else (ansO ks wanted, ansK ks wanted) := by
  have hL := fun c (hc : c ∈ ks.filter isL) => (List.mem_filter.mp hc).2
  have hc0 := clo_nn ks
  have W := wq_of hL hw
  have n1 := decN_eq ks
  have n2 := decN_eq (ks ++ List.replicate 2 61)
  rw [filt_61, clo_61] at n2
  have n2' : ks ++ List.replicate 2 61 = ks ++ [61, 61] := rfl
  rw [n2'] at n2
  by_cases ok : wanted ≠ 3 ∧ clo ks ≤ wanted ∧ ks = ks.filter isL ++ List.replicate (clo ks).toNat 61
  · obtain ⟨o1, o2, o3⟩ := ok
    have hlen : ks.length = (ks.filter isL).length + (clo ks).toNat := by
      have := congrArg List.length o3
      rw [List.length_append, List.length_replicate] at this
      exact this
    obtain ⟨j, hj, hj2, hj3⟩ := right_of hL hw o1 hc0 o2 hlen
    have hS : decS (ks ++ mp ks.length) = some (stL (ks.filter isL)).out := by
      have hk : ks ++ mp ks.length = ks.filter isL ++ List.replicate ((clo ks).toNat + j) 61 := by
        rw [hj, ← List.replicate_append_replicate, ← List.append_assoc, ← o3]
      rw [hk]
      exact decS_ok hL _ hj2
    have hD : decB ks = ((stL (ks.filter isL)).out, if ks.length % 4 = 0 then [] else [54]) := by
      unfold decB; rw [hS]
    have hK : ansK ks wanted = if clo ks < wanted then [54] else [] := by
      unfold ansK
      rw [if_neg (fun h => h.elim (fun h => absurd o2 (Int.not_le.mpr h)) (fun h => h o3))]
      rfl
    rw [hD, if_neg o1, ansO_eq hw o1, hK]
    rcases hj3 with ⟨z, y⟩ | ⟨z, y⟩
    · rw [if_pos z, if_neg y]
    · rw [if_neg z, if_pos y]
  · have hS : decS (ks ++ mp ks.length) = none := by
      cases hd : decS (ks ++ mp ks.length) with
      | none => rfl
      | some ls =>
        exfalso
        refine ok ?_
        unfold decS at hd
        cases hf : foldS (some .init) (ks ++ mp ks.length) with
        | none => rw [hf] at hd; cases hd
        | some st =>
          rw [hf, Option.bind_some] at hd
          obtain ⟨hN, hS⟩ := SO_all _ st hf
          obtain ⟨m1, m2, m3, m4, m5⟩ := hN
          obtain ⟨s1, s2⟩ := hS
          obtain ⟨j, hj⟩ := mp_rep ks.length
          rw [hj, filt_61] at m2 s1
          rw [clo_61] at s1
          rw [hj, clo_61, m2] at s2
          rw [z_add hc0, ← List.replicate_append_replicate, ← List.append_assoc] at s1
          have o3 := List.append_cancel_right s1
          have hq1 : st.q ≠ 1 := by
            intro h
            unfold endA at hd
            rw [if_pos h] at hd
            cases hd
          rw [m2] at hq1
          exact ⟨bk1 W hq1, bk2 W hc0 s2, o3⟩
    by_cases w3 : wanted = 3
    · have hD : decB ks = (ks, [78]) := by
        unfold decB; rw [hS]; dsimp only; rw [n1, if_pos (n_a W w3)]; dsimp only; rw [n2, if_pos (n_a W w3)]
      rw [hD, if_pos w3]
    · have hK : clo ks > wanted ∨ ks ≠ ks.filter isL ++ List.replicate (clo ks).toNat 61 :=
        Classical.byContradiction fun h => ok ⟨w3, Int.not_lt.mp (fun h' => h (.inl h')), Classical.byContradiction fun h' => h (.inr h')⟩
      rw [if_neg w3, ansO_eq hw w3]
      unfold ansK
      rw [if_pos hK]
      by_cases z : clo ks < wanted
      · have hD : decB ks = ((stL (ks.filter isL)).out, [66, 54]) := by
          unfold decB; rw [hS]; dsimp only; rw [n1, if_neg (n_b W w3), if_pos (n_c W w3 hc0 z)]; dsimp only; rw [n2, if_neg (n_b W w3), if_neg (n_d W w3 hc0 z)]
        rw [hD, if_pos z]
        rfl
      · have hD : decB ks = ((stL (ks.filter isL)).out, [66]) := by
          unfold decB; rw [hS]; dsimp only; rw [n1, if_neg (n_b W w3), if_neg (n_e W z)]
        rw [hD, if_neg z]
        rfl
abbrev tupO (b : Array UInt8) (t : Tok) (l : Addr) : Obj := { cls := .type "tuple", data := .seq #[.bytes b t, .ref l] }
noncomputable def kstr (c : Addr) : Str := if c = 78 then Str.ofString "length" else if c = 66 then Str.ofString "characters" else Str.ofString "padding"
noncomputable def KindsOf : List Value → List Addr → Prop
  | [], [] => True
  | v :: vs, c :: cs => (∃ t, v = .str (kstr c) t) ∧ KindsOf vs cs
  | _, _ => False
theorem kinds0 {vs : Array Value} (h : KindsOf vs.toList []) : vs = #[] := by
  obtain ⟨vs⟩ := vs
  cases vs with
  | nil => rfl
  | cons v vs => exact h.elim
theorem kinds1 {vs : Array Value} {c : Addr} (h : KindsOf vs.toList [c]) : ∃ t, vs = #[.str (kstr c) t] := by
  obtain ⟨vs⟩ := vs
  cases vs with
  | nil => exact h.elim
  | cons v vs =>
    obtain ⟨⟨t, rfl⟩, h2⟩ := h
    cases vs with
    | nil => exact ⟨t, rfl⟩
    | cons _ _ => exact h2.elim
theorem kinds2 {vs : Array Value} {c d : Addr} (h : KindsOf vs.toList [c, d]) : ∃ t u, vs = #[.str (kstr c) t, .str (kstr d) u] := by
  obtain ⟨vs⟩ := vs
  cases vs with
  | nil => exact h.elim
  | cons v vs =>
    obtain ⟨⟨t, rfl⟩, h2⟩ := h
    cases vs with
    | nil => exact h2.elim
    | cons v vs =>
      obtain ⟨⟨u, rfl⟩, h3⟩ := h2
      cases vs with
      | nil => exact ⟨t, u, rfl⟩
      | cons _ _ => exact h3.elim
theorem ints_inj {b c : Array UInt8} (h : KBw.bInts b = KBw.bInts c) : b.toList = c.toList := by
  unfold KBw.bInts at h
  revert h
  generalize b.toList = x
  generalize c.toList = y
  intro h
  induction x generalizing y with
  | nil => cases y with
    | nil => rfl
    | cons _ _ => cases h
  | cons a x ih => cases y with
    | nil => cases h
    | cons d y =>
      injection h with h1 h2
      rw [ih y h2, UInt8.toNat_inj.mp (Int.ofNat.inj h1)]
theorem ne_ints {b c : Array UInt8} {ks ls : List Int} (hb : KBw.bInts b = ks) (hc : KBw.bInts c = ls) (h : (b.toList != c.toList) = true) : ks ≠ ls := fun e => by
  rw [← hb, ← hc] at e
  rw [ints_inj e] at h
  simp at h
theorem eq_ints {b c : Array UInt8} {ks ls : List Int} (hb : KBw.bInts b = ks) (hc : KBw.bInts c = ls) (h : (b.toList != c.toList) = false) : ks = ls := by
  have h : b.toList = c.toList := by simpa using h
  rw [← hb, ← hc]
  unfold KBw.bInts
  rw [h]
theorem la_law {ks : List Int} : decB ks = if (-((ks.filter isL).length : Int)).fmod 4 = 3 then (ks, [78]) else (ansO ks ((-((ks.filter isL).length : Int)).fmod 4), ansK ks ((-((ks.filter isL).length : Int)).fmod 4)) :=
  law_plain (Int.fmod_eq_emod_of_nonneg _ (by decide))
theorem la_L {ks : List Int} (a : (-((ks.filter isL).length : Int)).fmod 4 = 3) : decB ks = (ks, [78]) := by rw [la_law, if_pos a]
theorem la_K {ks : List Int} (a : (-((ks.filter isL).length : Int)).fmod 4 ≠ 3) : (decB ks).2 = ansK ks ((-((ks.filter isL).length : Int)).fmod 4) := by rw [la_law, if_neg a]
theorem la_O {ks : List Int} (a : (-((ks.filter isL).length : Int)).fmod 4 ≠ 3) : (decB ks).1 = ansO ks ((-((ks.filter isL).length : Int)).fmod 4) := by rw [la_law, if_neg a]
section
variable {ks : List Int} {c : Int} (a : (-((ks.filter isL).length : Int)).fmod 4 ≠ 3) (hc : c = clo ks)
include a hc
theorem la_1 (h : (-((ks.filter isL).length : Int)).fmod 4 < c) : (decB ks).2 = [66] := by
  subst hc; rw [la_K a]; unfold ansK; rw [if_pos (.inl h), if_neg (by omega)]; rfl
theorem la_2 {b d : Array UInt8} (hb : KBw.bInts b = ks) (hd : KBw.bInts d = ks.filter isL ++ List.replicate c.toNat 61) (h : (b.toList != d.toList) = true) (h' : c < (-((ks.filter isL).length : Int)).fmod 4) : (decB ks).2 = [66, 54] := by
  subst hc; rw [la_K a]; unfold ansK; rw [if_pos (.inr (ne_ints hb hd h)), if_pos h']; rfl
theorem la_3 {b d : Array UInt8} (hb : KBw.bInts b = ks) (hd : KBw.bInts d = ks.filter isL ++ List.replicate c.toNat 61) (h : (b.toList != d.toList) = true) (h' : ¬ c < (-((ks.filter isL).length : Int)).fmod 4) : (decB ks).2 = [66] := by
  subst hc; rw [la_K a]; unfold ansK; rw [if_pos (.inr (ne_ints hb hd h)), if_neg h']; rfl
theorem la_4 {b d : Array UInt8} (hb : KBw.bInts b = ks) (hd : KBw.bInts d = ks.filter isL ++ List.replicate c.toNat 61) (h : (b.toList != d.toList) = false) (h' : ¬ (-((ks.filter isL).length : Int)).fmod 4 < c) (h'' : c < (-((ks.filter isL).length : Int)).fmod 4) : (decB ks).2 = [54] := by
  have e := eq_ints hb hd h
  subst hc; rw [la_K a]; unfold ansK; rw [if_neg (fun q => q.elim h' (fun q => q e)), if_pos h'']; rfl
theorem la_5 {b d : Array UInt8} (hb : KBw.bInts b = ks) (hd : KBw.bInts d = ks.filter isL ++ List.replicate c.toNat 61) (h : (b.toList != d.toList) = false) (h' : ¬ (-((ks.filter isL).length : Int)).fmod 4 < c) (h'' : ¬ c < (-((ks.filter isL).length : Int)).fmod 4) : (decB ks).2 = [] := by
  have e := eq_ints hb hd h
  subst hc; rw [la_K a]; unfold ansK; rw [if_neg (fun q => q.elim h' (fun q => q e)), if_neg h'']; rfl
end
end Mine
end

section
open PySem PySem.W PyProof.Rows PySem.Calls PySem.Spec
set_option maxRecDepth 100000
namespace Mine
section
variable {prog : Program} {w : World} {A : Around} {E : Value → Shared → Prop} {h : Heap} {g : Array GenState} {d : Drawn} {t : Nat} {os : OsState}
variable {nm q : Str} {C N D : Addr} {bs bmB : List Value} {hdct : Bool} {sn : List Str} {sub : List Value} {ab : Bool} {col : Option Bool} {dd : Option Addr} {k0 k1 k2 k3 k5 : Option Value} {B newId initId : String}
theorem inh_has {X : String} {b : Bool} (hb : bmB.contains (.type X) = b) : (Value.ref D :: bmB).contains (.type X) = b := by rw [List.contains_cons, hb]; rfl
theorem inh_check {M : Model} (F : ExcBaseFacts B newId initId bmB) {rest : List Value} {Q : Unit → Shared → Prop} (hC : h.get? C = some (excClassObj nm q C N bs (.ref D :: bmB) hdct sn sub ab col dd k0 k1 k2 k3 k5 newId))
    (hq : Q () ⟨h, g, d, t, os⟩) : wpAny M A (checkBuiltinCall newId ⟨.ref C :: rest, []⟩) Q E ⟨h, g, d, t, os⟩ := by
  have hcont : (Value.ref C :: Value.ref D :: bmB).contains (.type B) = true := by rw [List.contains_cons, inh_has F.hasB, Bool.or_true]
  have hstar := F.noStar
  simp only [checkBuiltinCall, F.newKind, F.newSplit, F.newRow]
  repeat (first | refine wpAny_loadPart_at hC ?_ | (refine wpAny_isSubtype_exc hC ?_; rw [hcont]) | refine wpAny_staticBase_exc hC ?_ | refine wpAny_madeBy_exc hC ?_ | simp only [bne_self_eq_false, Bool.false_eq_true, if_false] | wp_step)
  exact hq
theorem inh_new {R : Result → Shared → Prop} (F : ExcBaseFacts B newId initId bmB) {rest : List Value} (hC : h.get? C = some (excClassObj nm q C N bs (.ref D :: bmB) hdct sn sub ab col dd k0 k1 k2 k3 k5 newId))
    (hq : R (.ok (.ret (.ref (h.objs.size + 1)))) ⟨(h.push { cls := .type "tuple", data := .seq rest.toArray }).push
      { cls := .ref C, data := .fields #[.ref h.objs.size, .none, .none, .none, .bool false, .none] }, g, d, t, os⟩) (hrest : rest.length ≤ sizeLine := by size_fits) :
    codeAny (model prog w) A (.builtin newId ⟨.ref C :: rest, []⟩) R ⟨h, g, d, t, os⟩ := by
  have hends := F.ends
  have hcB : (Value.ref C :: Value.ref D :: bmB).contains (.type B) = true := by rw [List.contains_cons, inh_has F.hasB, Bool.or_true]
  have hcA : (Value.ref C :: Value.ref D :: bmB).contains (.type "AttributeError") = false := by rw [List.contains_cons, inh_has F.noAttr]; rfl
  have hcN : (Value.ref C :: Value.ref D :: bmB).contains (.type "NameError") = false := by rw [List.contains_cons, inh_has F.noName]; rfl
  refine codeAny_builtinAt F.entry ?_
  unfold Builtin.«BaseException.__new__»
  refine PySem.wpAt_bind ?_
  show PySem.wpAt _ _ _ (stack >>= _) _ _ _
  refine PySem.wpAt_bind (PySem.wpAt_stack fun p below => PySem.wpAt_of_wpAny ?_)
  wp_walk
  refine PySem.wpAt_of_wpAny ?_
  rw [F.owner]
  repeat (first | with_reducible refine wpAny_madeHere_exc F.canon hC ?_ | with_reducible refine wpAny_loadPart_at hC ?_ | (with_reducible refine wpAny_isSubtype_exc hC ?_; first | rw [hcB] | rw [hcA] | rw [hcN]) | wp_step)
  show R _ _
  rw [Heap.size_push]
  exact hq
theorem inh_type_call (F : ExcBaseFacts B newId initId bmB) {rest : List Value} {fI : Addr} {oI : Obj} {Q : Fin → Shared → Prop}
    (hC : h.get? C = some (excClassObj nm q C N bs (.ref D :: bmB) hdct sn sub ab col dd k0 k1 k2 k3 k5 newId)) (hi : Looks (model prog w) h (typeLookup (.ref C) "__init__") (some (.ref fI)))
    (hfI : h.get? fI = some oI) (hfc : oI.cls = .type "function")
    (hq : ∀ h' e, Heap.MadeExcOf h h' e (.ref C) rest →
      wpAny (model prog w) A (call (.ref fI) (.ref e :: rest)) (fun r s' => r = .none ∧ Q (.done (.ret (.ref e))) s') E ⟨h', g, d, t, os⟩) (hrest : rest.length ≤ sizeLine := by size_fits) :
    wpAny (model prog w) A (Builtin.«type.__call__» ⟨.ref C :: rest, []⟩) Q E ⟨h, g, d, t, os⟩ := by
  repeat (first | with_reducible refine wpAny_loadPart_at hC ?_ | with_reducible refine wpAny_madeBy_exc hC ?_ | wp_step)
  refine codeAny_call_builtin_code (Code.quiet_builtin _ F.quiet) (inh_check F hC ?_)
  refine inh_new F hC ?_ hrest
  show wpAny _ _ _ _ _ _
  have hC₁ := Heap.get?_push_of_some { cls := .ref C, data := .fields #[.ref h.objs.size, .none, .none, .none, .bool false, .none] }
    (Heap.get?_push_of_some { cls := .type "tuple", data := .seq rest.toArray } hC)
  have hfI₁ := Heap.get?_push_of_some { cls := .ref C, data := .fields #[.ref h.objs.size, .none, .none, .none, .bool false, .none] }
    (Heap.get?_push_of_some { cls := .type "tuple", data := .seq rest.toArray } hfI)
  have hget : ((h.push { cls := .type "tuple", data := .seq rest.toArray }).push
      { cls := .ref C, data := .fields #[.ref h.objs.size, .none, .none, .none, .bool false, .none] }).get? (h.objs.size + 1) = some
      { cls := .ref C, data := .fields #[.ref h.objs.size, .none, .none, .none, .bool false, .none] } := by heap_get
  have hcC : (Value.ref C :: Value.ref D :: bmB).contains (.ref C) = true := by simp
  unfold isInstance
  repeat (first | with_reducible refine wpAny_loadPart_at hget ?_ | (with_reducible refine wpAny_isSubtype_exc hC₁ ?_; rw [hcC]) | wp_step)
  show wpAny _ _ (typeLookup (.ref C) _) _ _ _
  refine hi _ _ _ _ (fun b o e => Heap.get?_push_of_some _ (Heap.get?_push_of_some _ e)) ?_
  refine wpAny_holding (wpAny_bind ?_)
  unfold bindSpecial
  refine wpAny_bind (wpAny_typeOf (T := "function") ⟨_, hfI₁, hfc⟩ ?_)
  rw [if_pos (by decide)]
  refine wpAny_pure (wpAny_bind (wpAny_mono (hq _ (h.objs.size + 1) ⟨fun b o hb => Heap.get?_push_of_some _ (Heap.get?_push_of_some _ hb), Heap.get?_none_of_le (Nat.le_succ _), h.objs.size, hget, Heap.get?_none_of_le (Nat.le_refl _), ?_⟩) (fun r s' hr => ?_) fun _ _ x => x))
  · exact Heap.get?_push_of_some _ (Heap.get?_push_at rfl rfl)
  · obtain ⟨rfl, hQ⟩ := hr
    wp_walk
    exact hQ
theorem call_inh (F : ExcBaseFacts B newId initId bmB) {rest : List Value} {fI : Addr} {oI : Obj} {Q : Value → Shared → Prop}
    (hC : h.get? C = some (excClassObj nm q C N bs (.ref D :: bmB) hdct sn sub ab col dd k0 k1 k2 k3 k5 newId)) (hi : Looks (model prog w) h (typeLookup (.ref C) "__init__") (some (.ref fI)))
    (hfI : h.get? fI = some oI) (hfc : oI.cls = .type "function")
    (hq : ∀ h' e, Heap.MadeExcOf h h' e (.ref C) rest →
      wpAny (model prog w) (A.under (.builtin "type.__call__" ⟨.ref C :: rest, []⟩)) (call (.ref fI) (.ref e :: rest)) (fun r s' => r = .none ∧ Q (.ref e) s') E ⟨h', g, d, t, os⟩) (hrest : rest.length ≤ sizeLine := by size_fits) :
    wpAny (model prog w) A (call (.ref C) rest) Q E ⟨h, g, d, t, os⟩ := by
  have f1 := tc_lookup
  have f2 := tc_bind (.ref C)
  have hT : (⟨h, g, d, t, os⟩ : Shared).TypeIs (.ref C) "type" := ⟨_, hC, rfl⟩
  refine wpAny_call (codeAny_of_tree ?_)
  show wpAny _ _ (callAny (.ref C) _) _ _ _
  repeat (any_goals (first | assumption | with_reducible refine wpAny_loadPart_at hC ?_ | wp_step))
  refine ⟨rfl, ?_⟩
  refine codeAny_call_builtin_at (Code.quiet_builtin _ (by decide +kernel)) entry_typeCall (wpAny_check_type_call_sub hC (inh_type_call (hrest := hrest) F hC hi hfI hfc fun h' e hm => ?_))
  exact hq h' e hm
end
/-- the class in the kept part: its own line, one own class above it, then the built-in ones -/
noncomputable def inhO (C D : Addr) (bmB : List Value) (newId : String) (o : Obj) : Data → Bool
  | .cls cd => o.cls == .type "type" && cd.mro == .ref C :: .ref D :: bmB && !cd.hasDel && cd.hasDict && o.slots.size == 6 && o.slots[4]? == some (some (.builtin newId))
  | _ => false
noncomputable def inhIn (K : Frag) (C D : Addr) (bmB : List Value) (newId : String) : Bool := (K.lookup C).any fun o => inhO C D bmB newId o o.data
theorem six {α : Type} {x : α} : ∀ {l : List α}, l.length = 6 → l[4]? = some x → ∃ a b c d f, l = [a, b, c, d, x, f]
  | [a, b, c, d, e, f], _, h => ⟨a, b, c, d, f, by cases h; rfl⟩
theorem inh_cls {K : Frag} {h : Heap} {C D : Addr} {bmB : List Value} {newId : String} (X : K.In h) (q : inhIn K C D bmB newId = true) : ∃ nm qn N bs sn sub ab col dd k0 k1 k2 k3 k5 cd,
    h.get? C = some (excClassObj nm qn C N bs (.ref D :: bmB) true sn sub ab col dd k0 k1 k2 k3 k5 newId) ∧ clsIn K C = some cd ∧ cd.mro = .ref C :: .ref D :: bmB ∧ cd.hasDict = true := by
  unfold inhIn at q
  cases ho : K.lookup C with
  | none => rw [ho] at q; cases q
  | some o =>
    rw [ho, Option.any_some] at q
    obtain ⟨cls, dd, data, sl⟩ := o
    cases data with
    | cls cd =>
      have q : (cls == .type "type" && cd.mro == .ref C :: .ref D :: bmB && !cd.hasDel && cd.hasDict && sl.size == 6 && sl[4]? == some (some (.builtin newId))) = true := q
      simp only [Bool.and_eq_true, beq_iff_eq, Bool.not_eq_true'] at q
      obtain ⟨⟨⟨⟨⟨h1, h2⟩, h3⟩, h4⟩, h5⟩, h6⟩ := q
      have hcd : clsIn K C = some cd := by unfold clsIn; rw [ho]
      obtain ⟨nm, bs, mro, ns, qn, hd, sn, sub, ab, col, del⟩ := cd
      dsimp only at h2 h3 h4
      subst h1 h2 h3 h4
      obtain ⟨l⟩ := sl
      obtain ⟨k0, k1, k2, k3, k5, rfl⟩ := six (l := l) h5 (by simpa using h6)
      exact ⟨nm, qn, ns, bs, sn, sub, ab, col, dd, k0, k1, k2, k3, k5, _, X _ _ ho, hcd, rfl, rfl⟩
    | _ => cases q
abbrev veB : List Value := [.type "ValueError", .type "Exception", .type "BaseException", .type "object"]
section
variable {prog : Program} {w : World} {A A₀ : Around} {E : Value → Shared → Prop} {s : Shared} {K : Frag} {x C D L : Addr} {h₀ : Heap} {m : Str → Option Value} {rest : List (Addr × Obj)} {ox : Obj} {name : Str} {v : Value}
theorem set_exc {Q : Unit → Shared → Prop} (F : Fr h₀ L s.heap m) (N : News h₀ L s.heap ((x, ox) :: rest)) (hne : ∀ p ∈ rest, p.1 ≠ x) (X₀ : K.In h₀) (hcx : ox.cls = .ref C) (hdx : ox.dict = none) (hno : notCls ox = true) (hfo : ox.isFreed = false)
    (hi : inhIn K C D veB "ValueError.__new__" = true) (hs : findIn K (.ref C) "__setattr__" = some (some (.builtin "object.__setattr__"))) (ht : findIn K (.ref C) name = some none)
    (h : ∀ h' d tk', Fr h₀ L h' m → News h₀ L h' ((x, { ox with dict := some d }) :: rest) → Q () { s with heap := h', toks := tk' }) :
    wpAny (model prog w) A (setAttr (.ref x) name v) Q E s := by
  have X := X₀.keeps F.keep
  have hx := (N _ (.head _)).1
  have I : InstAt s.heap x ox C none := ⟨hx, hcx, hno, by rw [hdx]; trivial⟩
  obtain ⟨nm, qn, N', bs, sn, sub, ab, col, dd, k0, k1, k2, k3, k5, cd, hC, hcd, hm, hdc⟩ := inh_cls X hi
  have SF := PySem.F.store_ValueError
  refine set_plain X I hs ?_
  have sub : Looks (model prog w) s.heap (isInstance (.ref x) (.type "object")) true := I.type.andThen (looks_mroIn X (by unfold mroIn; rw [hcd, Option.bind_some, hm]; rfl))
  refine codeAny_call_builtin SF.slot.plain SF.entry (@check_slot (model prog w) _ _ _ "object.__setattr__" "object" "__setattr__" (.ref x) [.str name _, v] [] _ SF.kind SF.split sub (SF.args (.ref x) (.str name _) v) ?_)
  have hmr : Looks (model prog w) s.heap (mroOf (.ref C)) cd.mro := (looks_clsIn X hcd).andThen .now
  rw [osa_eq, refuse_eq]
  have id' : ∀ b o, s.heap.get? b = some o → s.heap.get? b = some o := fun _ _ e => e
  refine wpAny_bind (wpAny_bind (I.type _ _ _ _ id' (wpAny_bind (hmr _ _ _ _ id' ?_))))
  rw [hm, refuseLoop_ref, refuseLoop_ref, SF.passes]
  refine wpAny_pure (wpAny_bind (I.type _ _ _ _ id' (wpAny_bind (looks_findIn X ht _ _ _ _ id' (wpAny_bind (wpAny_pure ?_))))))
  show wpAny _ _ (Builtin.ObjectAttr.storeInOwnDict (.ref x) (.ref C) (.str name _) name v _) _ _ _
  obtain ⟨oc, odi, oda, osl⟩ := ox
  dsimp only at hcx hdx
  subst hcx hdx
  refine wpAny_bind (wpAny_pure (wpAny_bind (wpAny_bind (wpAny_loadPart hx (wpAny_bind (looks_clsIn X hcd _ _ _ _ id' ?_))))))
  rw [hdc]
  rw [if_neg (show ¬ ((!true) = true) from by decide)]
  dsimp only
  rw [if_neg (by simp [typeHasDict])]
  have nd : ∀ c, oda ≠ .cls c := fun c z => by subst z; cases hno
  split
  · rename_i c
    exact absurd rfl (nd c)
  · have hx₁ : (s.heap.push { cls := .type "dict", data := .dict #[] }).get? x = some ⟨.ref C, none, oda, osl⟩ := Heap.get?_push_of_some _ hx
    have hxs : x ≠ s.heap.objs.size := Nat.ne_of_lt (Heap.lt_size hx)
    refine wpAny_bind (wpAny_alloc' ?_)
    refine wpAny_bind (wpAny_update' hx₁ ?_)
    refine wpAny_pure ?_
    have hgd : ((s.heap.push { cls := .type "dict", data := .dict #[] }).update x fun o => { cls := o.cls, dict := some s.heap.objs.size, data := o.data, slots := o.slots }).get? s.heap.objs.size
        = some { cls := .type "dict", data := .dict #[] } :=
      (Heap.get?_update_ne _ _ _ _ hxs.symm).trans (Heap.get?_push_at rfl rfl)
    have hnd : ((s.heap.push { cls := .type "dict", data := .dict #[] }).update x fun o => { cls := o.cls, dict := some s.heap.objs.size, data := o.data, slots := o.slots }).Ns s.heap.objs.size (fun _ => none) :=
      ⟨_, #[], _, hgd, rfl, fun e he => absurd he (by simp), fun _ => rfl⟩
    show wpAny _ _ (Builtin.ObjectAttr.storeInDict s.heap.objs.size (.str name _) name v) _ _ _
    unfold Builtin.ObjectAttr.storeInDict Builtin.ObjectAttr.newKeyGuard
    refine wpAny_bind (wpAny_pure (wpAny_bind (wpAny_nsSet1 (Heap.Ns1.of_empty hnd) fun h' hn' hs' => ?_)))
    obtain ⟨oD, esD, epD, hoD, hdD, hcD⟩ := hn'.count (Within.cons name v Within.nil)
    refine wpAny_bind (wpAny_lookBehind hoD (by rw [hdD]; exact pastItsLine_dict (Nat.le_trans hcD (by rw [List.length_cons, List.length_nil, sizeLine_eq]; omega))) ?_)
    have keep : ∀ b o, b ≠ x → s.heap.get? b = some o → h'.get? b = some o := fun b o hbx hb => (hs'.2 b (Nat.ne_of_lt (Heap.lt_size hb))).trans ((Heap.get?_update_ne _ _ _ _ hbx).trans (Heap.get?_push_of_some _ hb))
    have hx' : h'.get? x = some ⟨.ref C, some s.heap.objs.size, oda, osl⟩ := by
      refine (hs'.2 x hxs).trans (Heap.get?_update_self _ hx₁ ?_)
      cases oda <;> first | rfl | exact hfo
    have hxL := (N _ (.head _)).2
    refine wpAny_pure (h h' s.heap.objs.size _ ⟨?_, fun b o e => keep b o (fun z => ?_) (F.keep b o e), F.above⟩ fun p hp => ?_)
    · obtain ⟨oL, es, ep, hL, r⟩ := F.ns
      exact ⟨oL, es, ep, keep L _ (Ne.symm hxL.1) hL, r⟩
    · have z2 := hxL.2
      rw [← z, e] at z2
      cases z2
    · rcases List.mem_cons.mp hp with rfl | hp
      · exact ⟨hx', hxL⟩
      · exact ⟨keep _ _ (hne p hp) (N p (.tail _ hp)).1, (N p (.tail _ hp)).2⟩
end
end Mine
end

section
open PySem PySem.W PyProof.Rows PySem.Calls PySem.Spec
set_option maxRecDepth 100000
namespace Mine
section
variable {prog : Program} {w : World} {A : Around} {E : Value → Shared → Prop} {h : Heap} {g : Array GenState} {d : Drawn} {t : Nat} {os : OsState} {a : Addr} {o : Obj} {vs : Array Value} {t0 : Addr}
  {nm q : Str} {C N D : Addr} {bs bmB : List Value} {hdct : Bool} {sn : List Str} {sub : List Value} {ab : Bool} {col : Option Bool} {dd : Option Addr} {k0 k1 k2 k3 k5 : Option Value} {B newId : String}
theorem args_get_inh {R : Result → Shared → Prop} (FB : ExcAttrBase B bmB) (hC : h.get? C = some (excClassObj nm q C N bs (.ref D :: bmB) hdct sn sub ab col dd k0 k1 k2 k3 k5 newId))
    (hx : h.get? a = some o) (hc : o.cls = .ref C) (hd : o.data = .fields vs) (h0 : vs[0]? = some (.ref t0)) (hq : R (.ok (.ret (.ref t0))) ⟨h, g, d, t, os⟩) :
    codeAny (model prog w) A (.call (.builtin "getset_descriptor.__get__") ⟨[.builtin "BaseException.args", .ref a, .ref C], []⟩) R ⟨h, g, d, t, os⟩ := by
  have hT5 : (⟨h, g, d, t, os⟩ : Shared).TypeIs (.builtin "BaseException.args") "getset_descriptor" := PySem.F.typeOf_bexc_args
  have hcB : (Value.ref C :: Value.ref D :: bmB).contains (.type (".".intercalate ("BaseException.args".cutAt '.').dropLast)) = true := by
    rw [PySem.F.owner_bexc_args, List.contains_cons, inh_has FB.hasBase]; rfl
  refine codeAny_call_builtin PySem.F.slot_gs_get.plain PySem.F.entry_gs_get (PySem.F.slot_gs_get.check _ _ _ _ _ _ _ _ hT5 (PySem.F.args_gs_get _ _ _) ?_)
  repeat (any_goals (first | assumption | (with_reducible refine wpAny_loadPart_at hx ?_; rw [hc]) | (with_reducible refine wpAny_isSubtype_exc hC ?_; rw [hcB]) | wp_step))
  refine ⟨Code.quiet_builtin _ (by decide +kernel), codeAny_builtin PySem.F.entry_bexc_args ?_⟩
  have hnd : (Value.ref t0 == doubtfulMember) = false := by first | rfl | decide | simp [doubtfulMember, rawInt]
  unfold Builtin.«BaseException.args»
  repeat (any_goals (first | assumption | with_reducible refine wpAny_field hx hd h0 ?_ | wp_step))
theorem check_ga_inh {M : Model} {nameV : Value} {Q : Unit → Shared → Prop} (FB : ExcAttrBase B bmB) (hC : h.get? C = some (excClassObj nm q C N bs (.ref D :: bmB) hdct sn sub ab col dd k0 k1 k2 k3 k5 newId))
    (hx : h.get? a = some o) (hc : o.cls = .ref C) (hq : Q () ⟨h, g, d, t, os⟩) : wpAny M A (checkBuiltinCall "BaseException.__getattribute__" ⟨[.ref a, nameV], []⟩) Q E ⟨h, g, d, t, os⟩ := by
  have hk : builtinKind "BaseException.__getattribute__" = some .slot := by decide +kernel
  have hsplit : splitId "BaseException.__getattribute__" = some ("BaseException", "__getattribute__") := by decide +kernel
  have hcB : (Value.ref C :: Value.ref D :: bmB).contains (.type "BaseException") = true := by rw [List.contains_cons, inh_has FB.hasBase]; rfl
  have ha := PySem.F.args_bexc_ga (.ref a) nameV
  simp only [checkBuiltinCall, hk, hsplit]
  refine wpAny_bind ?_
  · unfold isInstance
    repeat (first | (with_reducible refine wpAny_loadPart_at hx ?_; rw [hc]) | (with_reducible refine wpAny_isSubtype_exc hC ?_; rw [hcB]) | wp_step)
    exact hq
theorem args_entry_inh {tk : Tok} {Q : Fin → Shared → Prop} (FB : ExcAttrBase B bmB) (hC : h.get? C = some (excClassObj nm q C N bs (.ref D :: bmB) hdct sn sub ab col dd k0 k1 k2 k3 k5 newId))
    (lkA : Looks (model prog w) h (typeLookup (.ref C) "args") (some (.builtin "BaseException.args")))
    (hx : h.get? a = some o) (hc : o.cls = .ref C) (hd : o.data = .fields vs) (h0 : vs[0]? = some (.ref t0)) (hq : Q (.done (.ret (.ref t0))) ⟨h, g, d, t, os⟩) :
    wpAny (model prog w) A (Builtin.«object.__getattribute__» ⟨[.ref a, .str "args" tk], []⟩) Q E ⟨h, g, d, t, os⟩ := by
  have hT5 : (⟨h, g, d, t, os⟩ : Shared).TypeIs (.builtin "BaseException.args") "getset_descriptor" := PySem.F.typeOf_bexc_args
  have f5 := PySem.F.typeOf_bexc_args
  have f6 := PySem.F.slot_gs_get.lookup
  have f7 := PySem.F.slot_gs_set.lookup
  have lkA' : ∀ (A' : Around) (Q' : Option Value → Shared → Prop) (E' : Value → Shared → Prop) (s' : Shared), (∀ b o, h.get? b = some o → s'.heap.get? b = some o) → Q' (some (.builtin "BaseException.args")) s' → wpAny (model prog w) A' (typeLookup (.ref C) (Str.ofString "args")) Q' E' s' := fun A' Q' E' s' => lkA A' Q' E' s'
  repeat (any_goals (first | assumption | (with_reducible refine wpAny_loadPart_at hx ?_; rw [hc]) | with_reducible refine lkA' _ _ _ _ (fun _ _ e => e) ?_ | wp_step))
  refine args_get_inh FB hC hx hc hd h0 ?_
  repeat (any_goals (first | assumption | wp_step))
theorem args_call_inh {tk : Tok} {R : Result → Shared → Prop} (FB : ExcAttrBase B bmB) (hC : h.get? C = some (excClassObj nm q C N bs (.ref D :: bmB) hdct sn sub ab col dd k0 k1 k2 k3 k5 newId))
    (lkA : Looks (model prog w) h (typeLookup (.ref C) "args") (some (.builtin "BaseException.args")))
    (hx : h.get? a = some o) (hc : o.cls = .ref C) (hd : o.data = .fields vs) (h0 : vs[0]? = some (.ref t0)) (hq : R (.ok (.ret (.ref t0))) ⟨h, g, d, t, os⟩) :
    codeAny (model prog w) A (.call (.builtin "BaseException.__getattribute__") ⟨[.ref a, .str "args" tk], []⟩) R ⟨h, g, d, t, os⟩ :=
  codeAny_call_builtin FB.ga.plain PySem.F.entry_bexc_ga (check_ga_inh FB hC hx hc (args_entry_inh FB hC lkA hx hc hd h0 hq))
theorem args_by_inh {tk : Tok} {fill expr : Bool} {Q : Value → Shared → Prop} (FB : ExcAttrBase B bmB) (hC : h.get? C = some (excClassObj nm q C N bs (.ref D :: bmB) hdct sn sub ab col dd k0 k1 k2 k3 k5 newId))
    (lkA : Looks (model prog w) h (typeLookup (.ref C) "args") (some (.builtin "BaseException.args")))
    (lkG : Looks (model prog w) h (typeLookup (.ref C) "__getattribute__") (some (.builtin "BaseException.__getattribute__")))
    (lkB : Looks (model prog w) h (typeLookup (.ref C) "__getattr__") none)
    (hx : h.get? a = some o) (hc : o.cls = .ref C) (hd : o.data = .fields vs) (h0 : vs[0]? = some (.ref t0)) (hq : Q (.ref t0) ⟨h, g, d, t, os⟩) :
    wpAny (model prog w) A (getAttrBy (.ref a) (.str "args" tk) fill expr) Q E ⟨h, g, d, t, os⟩ := by
  have f3 := FB.ga.bind (.ref a)
  have lkG' : ∀ (A' : Around) (Q' : Option Value → Shared → Prop) (E' : Value → Shared → Prop) (s' : Shared), (∀ b o, h.get? b = some o → s'.heap.get? b = some o) → Q' (some (.builtin "BaseException.__getattribute__")) s' → wpAny (model prog w) A' (typeLookup (.ref C) (Str.ofString "__getattribute__")) Q' E' s' := fun A' Q' E' s' => lkG A' Q' E' s'
  have lkB' : ∀ (A' : Around) (Q' : Option Value → Shared → Prop) (E' : Value → Shared → Prop) (s' : Shared), (∀ b o, h.get? b = some o → s'.heap.get? b = some o) → Q' none s' → wpAny (model prog w) A' (typeLookup (.ref C) (Str.ofString "__getattr__")) Q' E' s' := fun A' Q' E' s' => lkB A' Q' E' s'
  have hx0 : (expr && onTheHeap (Value.builtin "BaseException.__getattribute__")) = false := by cases expr <;> rfl
  have hx2 : (Value.builtin "BaseException.__getattribute__" == Value.builtin "object.__getattribute__") = false := by decide +kernel
  have hx1 : (onTheHeap (Value.ref C) && Value.builtin "BaseException.__getattribute__" == Value.builtin "object.__getattribute__") = false := by rw [hx2]; rfl
  repeat (any_goals (first | assumption | (with_reducible refine wpAny_loadPart_at hx ?_; rw [hc]) | with_reducible refine lkG' _ _ _ _ (fun _ _ e => e) ?_ | with_reducible refine lkB' _ _ _ _ (fun _ _ e => e) ?_ | wp_step))
  refine args_call_inh FB hC lkA hx hc hd h0 ?_
  repeat (any_goals (first | assumption | wp_step))
theorem args_attr_inh {expr : Bool} {Q : Value → Shared → Prop} (FB : ExcAttrBase B bmB) (hC : h.get? C = some (excClassObj nm q C N bs (.ref D :: bmB) hdct sn sub ab col dd k0 k1 k2 k3 k5 newId))
    (lkA : Looks (model prog w) h (typeLookup (.ref C) "args") (some (.builtin "BaseException.args")))
    (lkG : Looks (model prog w) h (typeLookup (.ref C) "__getattribute__") (some (.builtin "BaseException.__getattribute__")))
    (lkB : Looks (model prog w) h (typeLookup (.ref C) "__getattr__") none)
    (hx : h.get? a = some o) (hc : o.cls = .ref C) (hd : o.data = .fields vs) (h0 : vs[0]? = some (.ref t0)) (hq : Q (.ref t0) ⟨h, g, d, t + 1, os⟩) :
    wpAny (model prog w) A (getAttr (.ref a) "args" expr) Q E ⟨h, g, d, t, os⟩ := by
  unfold getAttr
  repeat (any_goals (first | assumption | with_reducible apply args_by_inh FB hC lkA lkG lkB hx hc hd h0 | wp_step))
end
section
variable {prog : Program} {w : World} {A : Around} {E : Value → Shared → Prop} {s : Shared} {K : Frag} {C D L e t0 : Addr} {h₀ : Heap} {m : Str → Option Value} {ch : List (Addr × Obj)} {oe : Obj} {vs : Array Value}
theorem get_args {expr : Bool} {Q : Value → Shared → Prop} (F : Fr h₀ L s.heap m) (X₀ : K.In h₀) (hx : s.heap.get? e = some oe) (hc : oe.cls = .ref C) (hd : oe.data = .fields vs) (h0 : vs[0]? = some (.ref t0))
    (hi : inhIn K C D veB "ValueError.__new__" = true) (lkA : findIn K (.ref C) "args" = some (some (.builtin "BaseException.args")))
    (lkG : findIn K (.ref C) "__getattribute__" = some (some (.builtin "BaseException.__getattribute__"))) (lkB : findIn K (.ref C) "__getattr__" = some none)
    (hq : Q (.ref t0) { s with toks := s.toks + 1 }) : wpAny (model prog w) A (getAttr (.ref e) "args" expr) Q E s := by
  have X := X₀.keeps F.keep
  obtain ⟨nm, qn, N', bs, sn, sub, ab, col, dd, k0, k1, k2, k3, k5, cd, hC, _⟩ := inh_cls X hi
  exact args_attr_inh PySem.F.attrBase_ValueError hC (looks_findIn X lkA) (looks_findIn X lkG) (looks_findIn X lkB) hx hc hd h0 hq
end
end Mine
end

section
open PySem PySem.W PyProof.Rows PySem.Calls PySem.Spec
set_option pp.deepTerms false
set_option pp.deepTerms.threshold 4
namespace Mine
noncomputable section
section
variable {w : World} {p : Program} {loose : List Str} {mean : ExcName → Option Value} {mg mb : Str → Option Value} {hd : Option Value} {dp un : Nat} {gd : Option (List Code)} {cn : Str} {cs : Scope} {a : Addr} {ccd : Value} {cl : List (Str × Addr)} {outer : List Env} {A₀ : Around} {base h₀ : Heap} {L : Addr} {m : Str → Option Value} {news : List (Addr × Obj)} {s : Shared} {Q E : Value → Shared → Prop}
abbrev excO (C d t : Addr) : Obj := ⟨.ref C, some d, .fields #[.ref t, .none, .none, .none, .bool false, .none], #[]⟩
abbrev tup0 : Obj := { cls := .type "tuple", data := .seq ([] : List Value).toArray }
set_option maxRecDepth 100000 in
set_option maxHeartbeats 8000000 in
theorem made (C : Addr) (hi : inhIn (Mine.hd.heap_39 w.params) C 41 veB "ValueError.__new__" = true) (hl : findIn (Mine.hd.heap_39 w.params) (.ref C) "__init__" = some (some (.ref 38)))
    (hs : findIn (Mine.hd.heap_39 w.params) (.ref C) "__setattr__" = some (some (.builtin "object.__setattr__"))) (ht : findIn (Mine.hd.heap_39 w.params) (.ref C) "line" = some none) (hf : typeIn (Mine.hd.heap_39 w.params) (.ref 38) = some (.type "function"))
    (B : Below A₀ base outer h₀) (F : Fr h₀ L s.heap m) (X : (Mine.hd.heap_39 w.params).In h₀) (N : News h₀ L s.heap news) (T : Top p loose mean mg mb h₀) (hk : cs.kind = .function) (hdp : dp + 2 < recursionLimit) (hun : un + 16 < cLine)
    (hret : ∀ e t d h' tk', Fr h₀ L h' m → News h₀ L h' ((e, excO C d t) :: (t, tup0) :: news) → (∀ p ∈ news, p.1 ≠ e ∧ p.1 ≠ t) → Q (.ref e) { s with heap := h', toks := tk' }) :
    wpAny (model Challenge.rw_ko0015_01.row.prog w) (tA hd dp un gd cn cs L a ccd cl outer) (call (.ref C) []) Q E s := by
  have Xs := X.keeps F.keep
  obtain ⟨nm, qn, N', bs, sn, sub, ab, col, dd, k0, k1, k2, k3, k5, cd, hC, _⟩ := inh_cls Xs hi
  have hf' : ((Mine.hd.heap_39 w.params).lookup 38).map (·.cls) = some (.type "function") := hf
  obtain ⟨oI, ho, hoc⟩ := Option.map_eq_some_iff.mp hf'
  refine call_inh (fI := 38) PySem.F.excBase_ValueError hC (looks_findIn Xs hl) (Xs _ _ ho) hoc fun h' e M => ?_
  have F1 : Fr h₀ L h' m := F.keeps M.keeps
  obtain ⟨t, he, htn, hto⟩ := M.there
  have nn : ∀ b, s.heap.get? b = none → h₀.get? b = none := fun b z => by
    cases q : h₀.get? b with
    | none => rfl
    | some o => rw [F.keep _ _ q] at z; cases z
  have N1 := News.more F1 (News.more F1 (fun p hp => ⟨M.keeps _ _ (N p hp).1, (N p hp).2⟩ : News h₀ L h' news) hto (fun es n z => by cases z) (nn _ htn)) he (fun es n z => by cases z) (nn _ M.new)
  have hte : t ≠ e := fun z => by rw [z, he] at hto; cases hto
  have hap : ∀ p ∈ news, p.1 ≠ e ∧ p.1 ≠ t := fun p hp => ⟨fun z => (by have := (N p hp).1; rw [z, M.new] at this; cases this), fun z => (by have := (N p hp).1; rw [z, htn] at this; cases this)⟩
  have hne : ∀ p ∈ (t, tup0) :: news, p.1 ≠ e := fun p hp => by
    rcases List.mem_cons.mp hp with rfl | hp
    · exact hte
    · exact (hap p hp).1
  clear M hC ho hoc Xs nn he hto htn hte F N
  w_top off
  k_with_none
  k_with "k_room" => ((try simp only [depth_under_make, depth_under_kw, depth_in1, depth_deeper, depth_caller]); (try dsimp only [tA]); omega)
  k_with "setAttr ref" => (k_here; k_dflt (refine' set_exc ?zF ?zN ?zne ?zX ?zc ?zd ?zo ?zf ?zi ?zs ?zt ?_; (case zF => k_asm); (case zN => k_asm); (case zne => assumption); (case zX => k_asm); (case zc => rfl); (case zd => rfl); (case zo => rfl); (case zf => rfl); (case zi => assumption); (case zs => assumption); (case zt => assumption)); intro h' d tk' F' N'; (try k_sweep); (try dsimp only))
  revert X; k_fill; intro X
  refine wpAny_call ?_
  k_dflt (refine' code_clos ?k1 ?k2 ?k3 ?k4 ?k5 ?kA ?kF ?kK ?k6 ?k7 ?k8 ?k9 ?kB ?_ ?c2 ?c3 ?c4 ?c5; (case kA => exact rfl); (case kF => exact rfl); (case kK => assumption); (case k1 => k_asm); (case k2 => k_asm); (case k3 => k_asm); (case k4 => k_asm); (case k5 => k_asm); (case k6 => k_is); (case k7 => k_is); (case k8 => k_room); (case k9 => exact binds_K (by k_in) rfl (by k_is) rfl rfl rfl); (case c5 => decide); (case kB => exact locs rfl); (case c2 => exact rfl); (case c3 => exact rfl); (case c4 => exact rfl); k_whole; intro g' L' h' FG' F' N' B' X' T'; (try dsimp only); (try k_lift B'); (try k_fold))
  k_steps
  all_goals exact hret _ _ _ _ _ (by assumption) (by assumption) hap
theorem made54 (K : (Mine.hd.heap_39 w.params).In h₀) : inhIn (Mine.hd.heap_39 w.params) 54 41 veB "ValueError.__new__" = true := by kernel_rfl
end
end
end Mine
end

section
open PySem PySem.W PyProof.Rows PySem.Calls PySem.Spec
set_option pp.deepTerms false
set_option pp.deepTerms.threshold 4
namespace Mine
theorem mp_len (n : Nat) : (mp n).length ≤ 3 := by unfold mp; split <;> simp <;> omega
theorem mp_slice {n : Nat} {v : Int} (e : v = 4 - (n : Int).fmod 4) (h : (n : Int).fmod 4 ≠ 0) : (([61, 61, 61] : List Int).drop ((none : Option Int).elim 0 (clipAt 3))).take ((some v).elim 3 (clipAt 3) - (none : Option Int).elim 0 (clipAt 3)) = mp n := by
  subst e
  rw [Int.fmod_eq_emod_of_nonneg _ (by decide)] at h ⊢
  unfold mp
  have h1 : n % 4 = 1 ∨ n % 4 = 2 ∨ n % 4 = 3 := by omega
  rcases h1 with z | z | z
  · have : (n : Int) % 4 = 1 := by omega
    rw [this, z]; rfl
  · have : (n : Int) % 4 = 2 := by omega
    rw [this, z]; rfl
  · have : (n : Int) % 4 = 3 := by omega
    rw [this, z]; rfl
theorem mp_zero {n : Nat} (h : (n : Int).fmod 4 = 0) : [] = mp n := by
  rw [Int.fmod_eq_emod_of_nonneg _ (by decide)] at h
  unfold mp
  rw [if_pos (by omega)]
theorem app_zero {b c : Array UInt8} {ks : List Int} (hb : KBw.bInts b = ks) (hc : KBw.bInts c = []) (h : (ks.length : Int).fmod 4 = 0) : KBw.bInts (b ++ c) = ks ++ mp ks.length := by
  rw [KBw.ints_app hb hc, ← mp_zero h]
theorem app_zero' {b : Array UInt8} {ks : List Int} (hb : KBw.bInts b = ks ++ []) (h : (ks.length : Int).fmod 4 = 0) : KBw.bInts b = ks ++ mp ks.length := by
  rw [hb, ← mp_zero h]
theorem cutA {h₀ h : Heap} {L : Addr} {x1 x2 : Addr × Obj} {rest news : List (Addr × Obj)} (N : News h₀ L h (x1 :: x2 :: rest)) (hs : ∀ p ∈ news, p ∈ rest) : News h₀ L h (x1 :: x2 :: news) := kst_newsOf N fun p hp => by
  simp only [List.mem_cons] at hp ⊢
  rcases hp with h | h | h
  · exact .inl h
  · exact .inr (.inl h)
  · exact .inr (.inr (hs p h))
theorem cutB {h₀ h : Heap} {L : Addr} {x1 x2 x3 x4 : Addr × Obj} {rest news : List (Addr × Obj)} (N : News h₀ L h (x1 :: x2 :: x3 :: x4 :: rest)) (hs : ∀ p ∈ news, p ∈ rest) : News h₀ L h (x1 :: x2 :: x3 :: x4 :: news) := kst_newsOf N fun p hp => by
  simp only [List.mem_cons] at hp ⊢
  rcases hp with h | h | h | h | h
  · exact .inl h
  · exact .inr (.inl h)
  · exact .inr (.inr (.inl h))
  · exact .inr (.inr (.inr (.inl h)))
  · exact .inr (.inr (.inr (.inr (hs p h))))
theorem cutC {h₀ h : Heap} {L : Addr} {x1 x2 x3 x4 x5 x6 : Addr × Obj} {rest news : List (Addr × Obj)} (N : News h₀ L h (x1 :: x2 :: x3 :: x4 :: x5 :: x6 :: rest)) (hs : ∀ p ∈ news, p ∈ rest) : News h₀ L h (x1 :: x2 :: x3 :: x4 :: x5 :: x6 :: news) := kst_newsOf N fun p hp => by
  simp only [List.mem_cons] at hp ⊢
  rcases hp with h | h | h | h | h | h | h
  · exact .inl h
  · exact .inr (.inl h)
  · exact .inr (.inr (.inl h))
  · exact .inr (.inr (.inr (.inl h)))
  · exact .inr (.inr (.inr (.inr (.inl h))))
  · exact .inr (.inr (.inr (.inr (.inr (.inl h)))))
  · exact .inr (.inr (.inr (.inr (.inr (.inr (hs p h))))))
theorem decB_S0 {ks ls : List Int} (h : decS (ks ++ mp ks.length) = some ls) (z : (ks.length : Int).fmod 4 = 0) : decB ks = (ls, []) := by
  rw [Int.fmod_eq_emod_of_nonneg _ (by decide)] at z
  unfold decB; rw [h]; simp only []; rw [if_pos (by omega)]
theorem decB_S1 {ks ls : List Int} (h : decS (ks ++ mp ks.length) = some ls) (z : (ks.length : Int).fmod 4 ≠ 0) : decB ks = (ls, [54]) := by
  rw [Int.fmod_eq_emod_of_nonneg _ (by decide)] at z
  unfold decB; rw [h]; simp only []; rw [if_neg (by omega)]
theorem decB_N1 {ks ls : List Int} (h : decS (ks ++ mp ks.length) = none) (h1 : decN ks = some ls) : decB ks = (ls, [66]) := by unfold decB; rw [h]; simp only []; rw [h1]
theorem decB_N2 {ks ls : List Int} (h : decS (ks ++ mp ks.length) = none) (h1 : decN ks = none) (h2 : decN (ks ++ [61, 61]) = some ls) : decB ks = (ls, [66, 54]) := by unfold decB; rw [h]; simp only []; rw [h1]; simp only []; rw [h2]
theorem decB_L {ks : List Int} (h : decS (ks ++ mp ks.length) = none) (h1 : decN ks = none) (h2 : decN (ks ++ [61, 61]) = none) : decB ks = (ks, [78]) := by unfold decB; rw [h]; simp only []; rw [h1]; simp only []; rw [h2]
theorem nS {f : UInt8 → Int} {ks : List Int} {r : Option (List Int)} (h : decS (ks ++ List.map f ([] : List UInt8)) = r) (z : (ks.length : Int).fmod 4 = 0) : decS (ks ++ mp ks.length) = r := by rw [← mp_zero z]; exact h
theorem nN {ks : List Int} {r : Option (List Int)} (h : decN (ks ++ List.map (fun c : UInt8 => (c.toNat : Int)) [61, 61]) = r) : decN (ks ++ [61, 61]) = r := h
noncomputable section
section
variable {w : World} {p : Program} {loose : List Str} {mean : ExcName → Option Value} {mg mb : Str → Option Value} {dp un : Nat} {gd : Option (List Code)} {cn : Str} {cs : Scope} {a : Addr} {ccd : Value} {A₀ : Around} {base h₀ : Heap} {L : Addr} {m : Str → Option Value} {news : List (Addr × Obj)} {s : Shared} {Q E : Value → Shared → Prop}
theorem caughtM {prog : Program} {A₁ : Around} {KF : Frag} {x : Str} {c : Value} {C : Addr} {g g₀ G : Heap} {e : Addr} {name : Str} {scope : Scope} {cd : Value} {s' : Shared} {outer : List Env} {E : Value → Shared → Prop} {Q : Flow → Shared → Prop} {b₀ : Stmt} {suite : List Stmt} {pos np : Pos} {rest : List ExceptHandler} {hd : Option Value}
    (R : RaisedX base G (envOf name scope L a cd :: outer) e (.ref C) c news s'.heap) (F : Fr g L G m) (K : Below A₁ base outer g) (hsm : G.UpToSlots s'.heap) (XB : KF.In base) (TB : Top p loose mean mg mb base)
    (D : KtsDicts (outer.filterMap (·.frame)) g) (T0 : KtsTurn (outer.filterMap (·.frame)) g₀ g)
    (ex : nsIn KF mainGlobals x = some (some (.ref C))) (q : ktsIn KF C "BaseException" = true)
    (k : ∀ h' g' oe ws, KtsTurn (outer.filterMap (·.frame)) g₀ g' → Fr g' L h' m → News g' L h' ((e, oe) :: news) → oe.data = .fields ws → ws[2]? = some c → Below A₁ base outer g' → KF.In g' → Top p loose mean mg mb g' → KtsDicts (outer.filterMap (·.frame)) g' →
      wpAny (model prog w) ((A₁.deeper (envOf name scope L a cd)).mark (some (.ref e))) (execs (b₀ :: suite) (envOf name scope L a cd)) Q E { s' with heap := h' })
    (hk : scope.kind = .function) (hx : (envOf name scope L a cd).kindOf x = some .globalImplicit) (hd' : (x == ("__debug__" : Str)) = false)
    (hE : PassesOwnAt (model prog w) ((A₁.deeper (envOf name scope L a cd)).mark (some (.ref e))) ((A₁.deeper (envOf name scope L a cd)).mark hd) (envOf name scope L a cd) E) :
    wpAny (model prog w) ((A₁.deeper (envOf name scope L a cd)).mark hd) (noteFrame (.ref e) (envOf name scope L a cd))
      (fun _ s₂ => wpAny (model prog w) ((A₁.deeper (envOf name scope L a cd)).mark hd) (setFlight (.ref e) none) (fun _ s₃ =>
        wpAny (model prog w) ((A₁.deeper (envOf name scope L a cd)).mark hd) (handleBy (.ref e) (envOf name scope L a cd) (.ExceptHandler (some (.Name x np)) none (b₀ :: suite) pos :: rest)) Q E s₃) E s₂) E s' :=
  caughtX (A₀ := A₁.mark hd) R F ⟨K.stack, K.stays, K.frames⟩ hsm XB TB D T0 ex q (fun h' g' oe ws a1 a2 a3 a4 a5 a6 a7 a8 a9 => k h' g' oe ws a1 a2 a3 a4 a5 ⟨a6.stack, a6.stays, a6.frames⟩ a7 a8 a9) hk hx hd' hE
set_option maxRecDepth 100000 in
set_option maxHeartbeats 8000000 in
theorem decode (b : Array UInt8) (tb : Tok) (ks : List Int) (hb : KBw.bInts b = ks) (hn : ks.length ≤ 100) (B : Below A₀ base [] h₀) (F : Fr h₀ L s.heap m) (X : (Mine.hd.heap_39 w.params).In h₀) (XB : (Mine.hd.heap_39 w.params).In base) (N : News h₀ L s.heap news) (T : Top p loose mean mg mb h₀) (TB : Top p loose mean mg mb base) (hk : cs.kind = .function) (hdp : dp + 10 < recursionLimit) (hun : un + 300 < cLine)
    (h0 : ∀ ls, decB ks = (ls, []) → ∀ D l b' t' h' tk', Fr h₀ L h' m → News h₀ L h' ((D, tupO b' t' l) :: (l, W.listOf #[] 0) :: news) → AllLt l news → KBw.bInts b' = ls → Q (.ref D) { s with heap := h', toks := tk' })
    (h1 : ∀ ls C, decB ks = (ls, [C]) → (C = 54 ∨ C = 66 ∨ C = 78) → ∀ D l e d t b' t' h' tk', Fr h₀ L h' m → News h₀ L h' ((D, tupO b' t' l) :: (l, W.listOf #[.ref e] 0) :: (e, excO C d t) :: (t, tup0) :: news) → AllLt l news → KBw.bInts b' = ls → Q (.ref D) { s with heap := h', toks := tk' })
    (h2 : ∀ ls C C', decB ks = (ls, [C, C']) → (C = 66 ∧ C' = 54) → ∀ D l e d t e2 d2 t2 b' t' h' tk', Fr h₀ L h' m → News h₀ L h' ((D, tupO b' t' l) :: (l, W.listOf #[.ref e, .ref e2] 0) :: (e2, excO C' d2 t2) :: (t2, tup0) :: (e, excO C d t) :: (t, tup0) :: news) → AllLt l news → KBw.bInts b' = ls → Q (.ref D) { s with heap := h', toks := tk' }) :
    wpAny (model Challenge.rw_ko0015_01.row.prog w) (tA none dp un gd cn cs L a ccd [] []) (call (.ref 145) [.bytes b tb]) Q E s := by
  have hmp := mp_len ks.length
  w_top off
  k_with_none
  k_with "k_room" => ((try simp only [depth_under_make, depth_under_kw, depth_in1, depth_deeper, depth_caller]); (try dsimp only [tA]); omega)
  k_with "noteFrame ref" => (k_here; k_dflt (first | (refine' caughtX ?zR ?zF ?zK ?zU ?zXB ?zTB ?zD ?zT0 ?zex ?zq ?_; (case zR => assumption); (case zF => assumption); (case zK => assumption); (case zU => assumption); (case zXB => assumption); (case zTB => assumption); (case zD => assumption); (case zT0 => first | assumption | exact KtsTurn.refl); (case zex => k_is); (case zq => kts_isx); k_whole) | (refine' caughtM ?zR ?zF ?zK ?zU ?zXB ?zTB ?zD ?zT0 ?zex ?zq ?_ ?zk1 ?zk2 ?zk3 ?zk4; (case zR => assumption); (case zF => assumption); (case zK => assumption); (case zU => assumption); (case zXB => assumption); (case zTB => assumption); (case zD => assumption); (case zT0 => first | assumption | exact KtsTurn.refl); (case zex => k_is); (case zq => kts_isx); (case zk1 => rfl); (case zk2 => rfl); (case zk3 => decide); (case zk4 => passes_own); k_whole)); intro h' g' oe ws T' F' N' hw1 hw2 K' X' P' D'; (try k_lift K'); (try k_sweep); (try dsimp only))
  k_with "subscriptTail" => (k_here; (with_reducible show wpAny _ _ (subscriptTail _ (Expr.Slice _ _ none _) (Value.bytes _ _) (Value.ref _)) _ _ _); (with_reducible rename Fr _ _ _ _ => F'); (with_reducible rename News _ _ _ _ => N'); (refine KBc.slice_K (s := ⟨_, _, _, _, _⟩) (ks := [61, 61, 61]) F' N' rfl (by constructor) (by constructor) (by decide) ?_); intro h' t' k F' N' kbcK; (have kbcM := kbcK.trans (mp_slice rfl (by assumption))))
  k_with "binaryOp Add bytes bytes" => (k_here; (with_reducible show wpAny _ _ (binaryOp Operator.Add (Value.bytes _ _) (Value.bytes _ _)) _ _ _); (k_dflt refine KBa.add_K (by with_reducible assumption) (by first | with_reducible assumption | exact (rfl : KBw.bInts #[] = []) | exact (rfl : KBw.bInts #[61, 61] = [61, 61])) (by (try simp only [List.length_append, List.length_map, List.length_cons, List.length_nil]); omega) ?_); intro t' k' kbaApp)
  k_with "call ref" => (k_here; (first | (with_reducible show wpAny _ _ (call (Value.ref 54) _) _ _ _) | (with_reducible show wpAny _ _ (call (Value.ref 66) _) _ _ _) | (with_reducible show wpAny _ _ (call (Value.ref 78) _) _ _ _)); (k_dflt (refine' made _ ?zh1 ?zh2 ?zh3 ?zh4 ?zh5 ?zk1 ?zk2 ?zk3 ?zk4 ?zk5 ?zk6 ?zk7 ?zk8 ?_; (case zk3 => k_asm); (case zh1 => kernel_rfl); (case zh2 => k_is); (case zh3 => k_is); (case zh4 => k_is); (case zh5 => k_is); (case zk1 => k_asm); (case zk2 => k_asm); (case zk4 => k_asm); (case zk5 => k_asm); (case zk6 => exact rfl); (case zk7 => k_room); (case zk8 => ktr_units))); intro e t d h' tk' F' N' ap'; (try k_sweep); (try dsimp only))
  k_with "call ref" => (k_here; (with_reducible show wpAny _ _ (call (Value.ref 138) _ _) _ _ _); (k_dflt (refine' b64d_lax _ _ _ ?zhb ?zhn ?zk1 ?zk2 ?zk3 ?zk4 ?zk5 ?zk6 ?zk7 ?zk8 ?zhc ?_ ?_; (case zhb => with_reducible assumption); (case zk4 => k_asm); (case zhc => first | exact .inr (.inl ⟨_, _, _, rfl, .head _, by assumption, by assumption⟩) | exact .inr (.inr ⟨_, _, _, _, _, _, rfl, .head _, by assumption, by assumption, .tail _ (.head _), by assumption, by assumption⟩)); (case zk1 => k_asm); (case zk2 => k_asm); (case zk3 => k_asm); (case zk5 => k_asm); (case zk6 => exact rfl); (case zk7 => k_room); (case zk8 => ktr_units); (case zhn => ((try simp only [List.length_append, List.length_map, List.length_cons, List.length_nil]); omega)))); first | (intro hN e g h' tk' F' (R' : RaisedX _ _ _ _ _ _ _ _) U') | (intro ls hls b' t' h' tk' F' N' hb'))
  k_with "call ref" => (k_here; (with_reducible show wpAny _ _ (call (Value.ref 138) _ _) _ _ _); (k_dflt (refine' b64d_strict _ _ _ ?zhb ?zhn ?zk1 ?zk2 ?zk3 ?zk4 ?zk5 ?zk6 ?zk7 ?zk8 ?_ ?_; (case zhb => first | exact app_zero' (by with_reducible assumption) (by with_reducible assumption) | with_reducible assumption); (case zk1 => k_asm); (case zk2 => k_asm); (case zk3 => k_asm); (case zk4 => k_asm); (case zk5 => k_asm); (case zk6 => exact rfl); (case zk7 => k_room); (case zk8 => ktr_units); (case zhn => ((try simp only [List.length_append, List.length_map, List.length_cons, List.length_nil]); omega)))); first | (intro hN e g h' tk' F' (R' : RaisedX _ _ _ _ _ _ _ _) U') | (intro ls hls b' t' h' tk' F' N' hb'))
  revert X; k_fill; intro X
  refine wpAny_call ?_
  k_dflt (refine' code_defS0 ?k1 ?k2 ?k3 ?k4 ?k5 ?kA ?k6 ?k7 ?k8 ?k9 ?kB ?_ ?cK ?c2 ?c3 ?c4 ?c5; (case kA => exact rfl); (case k2 => k_asm); (case k1 => k_asm); (case k3 => k_asm); (case k4 => k_asm); (case k5 => k_asm); (case k6 => k_is); (case k7 => k_is); (case k8 => k_room); (case k9 => exact BindsTo.of_eq rfl); (case kB => exact locs rfl); (case cK => assumption); (case c2 => exact rfl); (case c3 => exact rfl); (case c4 => exact rfl); (case c5 => decide); k_whole; intro g' L' h' FG' F' N' B' X' T' D'; (try dsimp only); (try k_lift B'); (try k_fold))
  k_steps
  all_goals (try (have kS := nS (by with_reducible assumption) (by with_reducible assumption)))
  all_goals (try (have kN := nN (by with_reducible assumption)))
  all_goals with_reducible first
    | (exfalso; omega)
    | exact h0 _ (decB_S0 (by assumption) (by assumption)) _ _ _ _ _ _ (by assumption) (cutA (by assumption) (by intro p hp; simp only [List.mem_cons, hp, or_true])) (by first | assumption | exact allLt_of (by assumption) | exact And.right (by assumption) | exact And.right (And.right (by assumption)) | exact And.right (And.right (And.right (by assumption))) | exact And.right (And.right (And.right (And.right (by assumption)))) | exact And.right (And.right (And.right (And.right (And.right (by assumption)))))  | exact And.right (And.right (And.right (And.right (And.right (And.right (by assumption)))))) | exact And.right (And.right (And.right (And.right (And.right (And.right (And.right (by assumption)))))))) (by assumption)
    | exact h1 _ _ (decB_S1 (by assumption) (by assumption)) (.inl rfl) _ _ _ _ _ _ _ _ _ (by assumption) (cutB (by assumption) (by intro p hp; simp only [List.mem_cons, hp, or_true])) (by first | assumption | exact allLt_of (by assumption) | exact And.right (by assumption) | exact And.right (And.right (by assumption)) | exact And.right (And.right (And.right (by assumption))) | exact And.right (And.right (And.right (And.right (by assumption)))) | exact And.right (And.right (And.right (And.right (And.right (by assumption)))))  | exact And.right (And.right (And.right (And.right (And.right (And.right (by assumption)))))) | exact And.right (And.right (And.right (And.right (And.right (And.right (And.right (by assumption)))))))) (by assumption)
    | exact h1 _ _ (decB_N1 (by assumption) (by assumption)) (.inr (.inl rfl)) _ _ _ _ _ _ _ _ _ (by assumption) (cutB (by assumption) (by intro p hp; simp only [List.mem_cons, hp, or_true])) (by first | assumption | exact allLt_of (by assumption) | exact And.right (by assumption) | exact And.right (And.right (by assumption)) | exact And.right (And.right (And.right (by assumption))) | exact And.right (And.right (And.right (And.right (by assumption)))) | exact And.right (And.right (And.right (And.right (And.right (by assumption)))))  | exact And.right (And.right (And.right (And.right (And.right (And.right (by assumption)))))) | exact And.right (And.right (And.right (And.right (And.right (And.right (And.right (by assumption)))))))) (by assumption)
    | exact h2 _ _ _ (decB_N2 (by assumption) (by assumption) (by assumption)) ⟨rfl, rfl⟩ _ _ _ _ _ _ _ _ _ _ _ _ (by assumption) (cutC (by assumption) (by intro p hp; simp only [List.mem_cons, hp, or_true])) (by first | assumption | exact allLt_of (by assumption) | exact And.right (by assumption) | exact And.right (And.right (by assumption)) | exact And.right (And.right (And.right (by assumption))) | exact And.right (And.right (And.right (And.right (by assumption)))) | exact And.right (And.right (And.right (And.right (And.right (by assumption)))))  | exact And.right (And.right (And.right (And.right (And.right (And.right (by assumption)))))) | exact And.right (And.right (And.right (And.right (And.right (And.right (And.right (by assumption)))))))) (by assumption)
    | exact h1 _ _ (decB_L (by assumption) (by assumption) (by assumption)) (.inr (.inr rfl)) _ _ _ _ _ _ _ _ _ (by assumption) (cutB (by assumption) (by intro p hp; simp only [List.mem_cons, hp, or_true])) (by first | assumption | exact allLt_of (by assumption) | exact And.right (by assumption) | exact And.right (And.right (by assumption)) | exact And.right (And.right (And.right (by assumption))) | exact And.right (And.right (And.right (And.right (by assumption)))) | exact And.right (And.right (And.right (And.right (And.right (by assumption)))))  | exact And.right (And.right (And.right (And.right (And.right (And.right (by assumption)))))) | exact And.right (And.right (And.right (And.right (And.right (And.right (And.right (by assumption)))))))) (by assumption)
end
end
end Mine
end

section
open PySem PySem.W PyProof.Rows PySem.Calls PySem.Spec
set_option maxRecDepth 100000
namespace Mine
section
variable {prog : Program} {w : World} {A : Around} {E : Value → Shared → Prop} {h : Heap} {g : Array GenState} {d : Drawn} {t : Nat} {os : OsState} {a : Addr} {o : Obj} {vs : Array Value} {t0 : Addr}
  {nm q : Str} {C N D : Addr} {bs : List Value} {hdct : Bool} {sn : List Str} {sub : List Value} {ab : Bool} {col : Option Bool} {dd : Option Addr} {k0 k1 k2 k3 k5 : Option Value} {newId : String}
theorem cls_get_inh {R : Result → Shared → Prop} (FB : ExcAttrBase "ValueError" veB) (hC : h.get? C = some (excClassObj nm q C N bs (.ref D :: veB) hdct sn sub ab col dd k0 k1 k2 k3 k5 newId))
    (hx : h.get? a = some o) (hc : o.cls = .ref C) (hq : R (.ok (.ret (.ref C))) ⟨h, g, d, t, os⟩) :
    codeAny (model prog w) A (.call (.builtin "getset_descriptor.__get__") ⟨[.builtin "object.__class__", .ref a, .ref C], []⟩) R ⟨h, g, d, t, os⟩ := by
  have hT5 : (⟨h, g, d, t, os⟩ : Shared).TypeIs (.builtin "object.__class__") "getset_descriptor" := PySem.F.typeOf_object_class
  have hcB : (Value.ref C :: Value.ref D :: veB).contains (.type (".".intercalate ("object.__class__".cutAt '.').dropLast)) = true := by
    rw [PySem.F.owner_object_class, List.contains_cons, inh_has (show veB.contains (.type "object") = true by decide)]; rfl
  refine codeAny_call_builtin PySem.F.slot_gs_get.plain PySem.F.entry_gs_get (PySem.F.slot_gs_get.check _ _ _ _ _ _ _ _ hT5 (PySem.F.args_gs_get _ _ _) ?_)
  repeat (any_goals (first | assumption | (with_reducible refine wpAny_loadPart_at hx ?_; rw [hc]) | (with_reducible refine wpAny_isSubtype_exc hC ?_; rw [hcB]) | wp_step))
  refine ⟨Code.quiet_builtin _ (by decide +kernel), codeAny_builtin PySem.F.entry_object_class ?_⟩
  repeat (any_goals (first | assumption | (with_reducible refine wpAny_loadPart_at hx ?_; rw [hc]) | wp_step))
theorem cls_entry_inh {tk : Tok} {Q : Fin → Shared → Prop} (FB : ExcAttrBase "ValueError" veB) (hC : h.get? C = some (excClassObj nm q C N bs (.ref D :: veB) hdct sn sub ab col dd k0 k1 k2 k3 k5 newId))
    (lkA : Looks (model prog w) h (typeLookup (.ref C) "__class__") (some (.builtin "object.__class__")))
    (hx : h.get? a = some o) (hc : o.cls = .ref C) (hq : Q (.done (.ret (.ref C))) ⟨h, g, d, t, os⟩) :
    wpAny (model prog w) A (Builtin.«object.__getattribute__» ⟨[.ref a, .str "__class__" tk], []⟩) Q E ⟨h, g, d, t, os⟩ := by
  have hT5 : (⟨h, g, d, t, os⟩ : Shared).TypeIs (.builtin "object.__class__") "getset_descriptor" := PySem.F.typeOf_object_class
  have f5 := PySem.F.typeOf_object_class
  have f6 := PySem.F.slot_gs_get.lookup
  have f7 := PySem.F.slot_gs_set.lookup
  have lkA' : ∀ (A' : Around) (Q' : Option Value → Shared → Prop) (E' : Value → Shared → Prop) (s' : Shared), (∀ b o, h.get? b = some o → s'.heap.get? b = some o) → Q' (some (.builtin "object.__class__")) s' → wpAny (model prog w) A' (typeLookup (.ref C) (Str.ofString "__class__")) Q' E' s' := fun A' Q' E' s' => lkA A' Q' E' s'
  repeat (any_goals (first | assumption | (with_reducible refine wpAny_loadPart_at hx ?_; rw [hc]) | with_reducible refine lkA' _ _ _ _ (fun _ _ e => e) ?_ | wp_step))
  refine cls_get_inh FB hC hx hc ?_
  repeat (any_goals (first | assumption | wp_step))
theorem cls_call_inh {tk : Tok} {R : Result → Shared → Prop} (FB : ExcAttrBase "ValueError" veB) (hC : h.get? C = some (excClassObj nm q C N bs (.ref D :: veB) hdct sn sub ab col dd k0 k1 k2 k3 k5 newId))
    (lkA : Looks (model prog w) h (typeLookup (.ref C) "__class__") (some (.builtin "object.__class__")))
    (hx : h.get? a = some o) (hc : o.cls = .ref C) (hq : R (.ok (.ret (.ref C))) ⟨h, g, d, t, os⟩) :
    codeAny (model prog w) A (.call (.builtin "BaseException.__getattribute__") ⟨[.ref a, .str "__class__" tk], []⟩) R ⟨h, g, d, t, os⟩ :=
  codeAny_call_builtin FB.ga.plain PySem.F.entry_bexc_ga (check_ga_inh FB hC hx hc (cls_entry_inh FB hC lkA hx hc hq))
theorem cls_by_inh {tk : Tok} {fill expr : Bool} {Q : Value → Shared → Prop} (FB : ExcAttrBase "ValueError" veB) (hC : h.get? C = some (excClassObj nm q C N bs (.ref D :: veB) hdct sn sub ab col dd k0 k1 k2 k3 k5 newId))
    (lkA : Looks (model prog w) h (typeLookup (.ref C) "__class__") (some (.builtin "object.__class__")))
    (lkG : Looks (model prog w) h (typeLookup (.ref C) "__getattribute__") (some (.builtin "BaseException.__getattribute__")))
    (lkB : Looks (model prog w) h (typeLookup (.ref C) "__getattr__") none)
    (hx : h.get? a = some o) (hc : o.cls = .ref C) (hq : Q (.ref C) ⟨h, g, d, t, os⟩) :
    wpAny (model prog w) A (getAttrBy (.ref a) (.str "__class__" tk) fill expr) Q E ⟨h, g, d, t, os⟩ := by
  have f3 := FB.ga.bind (.ref a)
  have lkG' : ∀ (A' : Around) (Q' : Option Value → Shared → Prop) (E' : Value → Shared → Prop) (s' : Shared), (∀ b o, h.get? b = some o → s'.heap.get? b = some o) → Q' (some (.builtin "BaseException.__getattribute__")) s' → wpAny (model prog w) A' (typeLookup (.ref C) (Str.ofString "__getattribute__")) Q' E' s' := fun A' Q' E' s' => lkG A' Q' E' s'
  have lkB' : ∀ (A' : Around) (Q' : Option Value → Shared → Prop) (E' : Value → Shared → Prop) (s' : Shared), (∀ b o, h.get? b = some o → s'.heap.get? b = some o) → Q' none s' → wpAny (model prog w) A' (typeLookup (.ref C) (Str.ofString "__getattr__")) Q' E' s' := fun A' Q' E' s' => lkB A' Q' E' s'
  have hx0 : (expr && onTheHeap (Value.builtin "BaseException.__getattribute__")) = false := by cases expr <;> rfl
  have hx2 : (Value.builtin "BaseException.__getattribute__" == Value.builtin "object.__getattribute__") = false := by decide +kernel
  have hx1 : (onTheHeap (Value.ref C) && Value.builtin "BaseException.__getattribute__" == Value.builtin "object.__getattribute__") = false := by rw [hx2]; rfl
  repeat (any_goals (first | assumption | (with_reducible refine wpAny_loadPart_at hx ?_; rw [hc]) | with_reducible refine lkG' _ _ _ _ (fun _ _ e => e) ?_ | with_reducible refine lkB' _ _ _ _ (fun _ _ e => e) ?_ | wp_step))
  refine cls_call_inh FB hC lkA hx hc ?_
  repeat (any_goals (first | assumption | wp_step))
theorem cls_attr_inh {expr : Bool} {Q : Value → Shared → Prop} (FB : ExcAttrBase "ValueError" veB) (hC : h.get? C = some (excClassObj nm q C N bs (.ref D :: veB) hdct sn sub ab col dd k0 k1 k2 k3 k5 newId))
    (lkA : Looks (model prog w) h (typeLookup (.ref C) "__class__") (some (.builtin "object.__class__")))
    (lkG : Looks (model prog w) h (typeLookup (.ref C) "__getattribute__") (some (.builtin "BaseException.__getattribute__")))
    (lkB : Looks (model prog w) h (typeLookup (.ref C) "__getattr__") none)
    (hx : h.get? a = some o) (hc : o.cls = .ref C) (hq : Q (.ref C) ⟨h, g, d, t + 1, os⟩) :
    wpAny (model prog w) A (getAttr (.ref a) "__class__" expr) Q E ⟨h, g, d, t, os⟩ := by
  unfold getAttr
  repeat (any_goals (first | assumption | with_reducible apply cls_by_inh FB hC lkA lkG lkB hx hc | wp_step))
theorem cls_attrq_inh {Q : Option Value → Shared → Prop} (FB : ExcAttrBase "ValueError" veB) (hC : h.get? C = some (excClassObj nm q C N bs (.ref D :: veB) hdct sn sub ab col dd k0 k1 k2 k3 k5 newId))
    (lkA : Looks (model prog w) h (typeLookup (.ref C) "__class__") (some (.builtin "object.__class__")))
    (lkG : Looks (model prog w) h (typeLookup (.ref C) "__getattribute__") (some (.builtin "BaseException.__getattribute__")))
    (lkB : Looks (model prog w) h (typeLookup (.ref C) "__getattr__") none)
    (hx : h.get? a = some o) (hc : o.cls = .ref C) (hq : Q (some (.ref C)) ⟨h, g, d, t + 1, os⟩) :
    wpAny (model prog w) A (getAttr? (.ref a) "__class__") Q E ⟨h, g, d, t, os⟩ := by
  unfold getAttr? getAttrBy?
  repeat (any_goals (first | assumption | with_reducible apply cls_by_inh FB hC lkA lkG lkB hx hc | wp_step))
end
noncomputable def isNotC (K : Frag) (C C' : Addr) : Bool := !(C == C') && (clsIn K C').isSome && typeIn K (.ref C') == some (.type "type") && instIn K (.ref C') (.type "type") == some true && subIn K (.ref C) (.ref C') == some false && typeIn K (.ref C) == some (.type "type")
section
variable {prog : Program} {w : World} {A : Around} {E : Value → Shared → Prop} {s : Shared} {K : Frag} {C C' D : Addr} {a : Addr} {o : Obj}
theorem isn_nestedC {dep : Int} {tk : Tok} {Q : Fin → Shared → Prop} (X : K.In s.heap) (hx : s.heap.get? a = some o) (hc : o.cls = .ref C) (e : isNotC K C C' = true) (hi : inhIn K C D veB "ValueError.__new__" = true)
    (lkA : findIn K (.ref C) "__class__" = some (some (.builtin "object.__class__"))) (lkG : findIn K (.ref C) "__getattribute__" = some (some (.builtin "BaseException.__getattribute__"))) (lkB : findIn K (.ref C) "__getattr__" = some none)
    (h : Q (.done (.ret (.bool false))) { s with toks := s.toks + 1 }) :
    wpAny (model prog w) A (Builtin.«isinstance.nested» ⟨[.ref a, .ref C', .int dep tk], []⟩) Q E s := by
  obtain ⟨nm, qn, N', bs, sn, sub, ab, col, dd, k0, k1, k2, k3, k5, cd, hC, _⟩ := inh_cls X hi
  obtain ⟨hh, g, d, tt, os⟩ := s
  unfold isNotC at e
  simp only [Bool.and_eq_true, Bool.not_eq_true'] at e
  obtain ⟨⟨⟨⟨⟨ne, e0⟩, e1⟩, e2⟩, e3⟩, e4⟩ := e
  have ht : Looks (model prog w) hh (typeOf (.ref a)) (.ref C) := by rw [← hc]; exact (Looks.ld hx).andThen .now
  unfold Builtin.«isinstance.nested»
  refine wpAny_bind (ht.at ?_)
  rw [if_neg (fun q => by
    have := beq_iff_eq.mp q
    injection this with z
    rw [z] at ne
    simp at ne)]
  have L1 := looks_typeIn (M := model prog w) X (beq_iff_eq.mp e1)
  have L2 := looks_instIn (M := model prog w) X (beq_iff_eq.mp e2)
  have L4 : Looks (model prog w) hh (isSubtype (.ref C) (.ref C')) false := looks_subIn X (beq_iff_eq.mp e3)
  have L3 : Looks (model prog w) hh (isInstance (.ref a) (.ref C')) false := ht.andThen L4
  refine wpAny_bind (L1.at ?_)
  rw [if_pos (by decide)]
  k_delta "plainIsInstance"
  unfold isType
  repeat lk
  unfold clsIn at e0
  split at e0
  · rename_i ho
    refine nd_load (X _ _ ho) (nd_pure (wpAny_pure ?_))
    simp only [Bool.not_true, Bool.false_eq_true, if_false]
    refine wpAny_bind (L3.at ?_)
    simp only [Bool.false_eq_true, if_false]
    refine wpAny_bind (cls_attrq_inh PySem.F.attrBase_ValueError hC (looks_findIn X lkA) (looks_findIn X lkG) (looks_findIn X lkB) hx hc ?_)
    dsimp only
    refine wpAny_bind (wpAny_bind (wpAny_loadPart hC (wpAny_pure ?_)))
    simp only [Bool.not_true, Bool.false_eq_true, if_false, excClassObj]
    refine wpAny_bind (wpAny_rule ?_)
    refine L4.at ?_
    exact wpAny_pure h
  · cases e0
theorem isn_callC {Q : Value → Shared → Prop} (X : K.In s.heap) (hx : s.heap.get? a = some o) (hc : o.cls = .ref C) (e : isNotC K C C' = true) (hi : inhIn K C D veB "ValueError.__new__" = true)
    (lkA : findIn K (.ref C) "__class__" = some (some (.builtin "object.__class__"))) (lkG : findIn K (.ref C) "__getattribute__" = some (some (.builtin "BaseException.__getattribute__"))) (lkB : findIn K (.ref C) "__getattr__" = some none)
    (h : Q (.bool false) { s with toks := s.toks + 1 }) :
    wpAny (model prog w) A (call (.builtin "isinstance") [.ref a, .ref C']) Q E s :=
  call_isinstance (S := fun _ R s => (K.In s.heap ∧ s.heap.get? a = some o) ∧ R (.ok (.ret (.bool false))) { s with toks := s.toks + 1 })
    (fun _ _ _ _ _ hs => isinstance_outer (isn_nestedC hs.1.1 hs.1.2 hc e hi lkA lkG lkB hs.2) (by intro z; cases z)) ⟨⟨X, hx⟩, h⟩
theorem isy_callC {Q : Value → Shared → Prop} (X : K.In s.heap) (hx : s.heap.get? a = some o) (hc : o.cls = .ref C) (h : Q (.bool true) s) :
    wpAny (model prog w) A (call (.builtin "isinstance") [.ref a, .ref C]) Q E s := by
  refine isi_call X (t := .ref C) (fun M => by rw [← hc]; exact (Looks.ld hx).andThen .now) (by unfold isIn; simp) (by intro z; cases z) h
end
end Mine
end

section
open PySem PySem.W PyProof.Rows PySem.Calls PySem.Spec
set_option pp.deepTerms false
set_option pp.deepTerms.threshold 4
namespace Mine
noncomputable section
section
variable {w : World} {p : Program} {loose : List Str} {mean : ExcName → Option Value} {mg mb : Str → Option Value} {hd : Option Value} {dp un : Nat} {gd : Option (List Code)} {cn : Str} {cs : Scope} {a : Addr} {ccd : Value} {cl : List (Str × Addr)} {outer : List Env} {A₀ : Around} {base h₀ : Heap} {L : Addr} {m : Str → Option Value} {news : List (Addr × Obj)} {s : Shared} {Q E : Value → Shared → Prop}
set_option maxRecDepth 100000 in
set_option maxHeartbeats 8000000 in
theorem kind54 (e d t : Addr) (B : Below A₀ base outer h₀) (F : Fr h₀ L s.heap m) (X : (Mine.hd.heap_39 w.params).In h₀) (N : News h₀ L s.heap ((e, excO 54 d t) :: (t, tup0) :: news)) (T : Top p loose mean mg mb h₀) (hk : cs.kind = .function) (hdp : dp + 1 < recursionLimit) (hun : un + 200 < cLine)
    (hret : ∀ t' h' tk', Fr h₀ L h' m → News h₀ L h' ((e, excO 54 d t) :: (t, tup0) :: news) → Q (.str "padding" t') { s with heap := h', toks := tk' }) :
    wpAny (model Challenge.rw_ko0015_01.row.prog w) (tA hd dp un gd cn cs L a ccd cl outer) (call (.ref 171) [.ref e]) Q E s := by
  w_top off
  k_with_none
  k_with "k_room" => ((try simp only [depth_under_make, depth_under_kw, depth_in1, depth_deeper, depth_caller]); (try dsimp only [tA]); omega)
  k_with "getAttr ref" => (k_here; (with_reducible show wpAny _ _ (getAttr (Value.ref _) ("args" : Str) _) _ _ _); k_dflt (refine' get_args (D := 41) ?zF ?zX ?zx ?zc ?zd ?zo ?zi ?za ?zg ?zb ?_; (case zF => k_asm); (case zX => k_asm); (case zx => exact News.get (by k_asm) (by k_mem)); (case zc => rfl); (case zd => rfl); (case zo => rfl); (case zi => kernel_rfl); (case za => k_is); (case zg => k_is); (case zb => k_is)))
  k_with "call builtin:isinstance" => (k_here; k_dflt (first | (refine' isy_callC ?zX ?zx ?zc ?_; (case zX => k_in); (case zx => exact News.get (by k_asm) (by k_mem)); (case zc => rfl)) | (refine' isn_callC (D := 41) ?zX ?zx ?zc ?ze ?zi ?za ?zg ?zb ?_; (case zX => k_in); (case zx => exact News.get (by k_asm) (by k_mem)); (case zc => rfl); (case ze => kernel_rfl); (case zi => kernel_rfl); (case za => k_is); (case zg => k_is); (case zb => k_is))))
  revert X; k_fill; intro X
  refine wpAny_call ?_
  k_dflt cell_enter
  k_steps
  all_goals exact hret _ _ _ (by assumption) (kst_newsOf (by assumption) (fun p hp => by simp only [List.mem_cons] at hp ⊢; exact .inr hp))
set_option maxRecDepth 100000 in
set_option maxHeartbeats 8000000 in
theorem kind66 (e d t : Addr) (B : Below A₀ base outer h₀) (F : Fr h₀ L s.heap m) (X : (Mine.hd.heap_39 w.params).In h₀) (N : News h₀ L s.heap ((e, excO 66 d t) :: (t, tup0) :: news)) (T : Top p loose mean mg mb h₀) (hk : cs.kind = .function) (hdp : dp + 1 < recursionLimit) (hun : un + 200 < cLine)
    (hret : ∀ t' h' tk', Fr h₀ L h' m → News h₀ L h' ((e, excO 66 d t) :: (t, tup0) :: news) → Q (.str "characters" t') { s with heap := h', toks := tk' }) :
    wpAny (model Challenge.rw_ko0015_01.row.prog w) (tA hd dp un gd cn cs L a ccd cl outer) (call (.ref 171) [.ref e]) Q E s := by
  w_top off
  k_with_none
  k_with "k_room" => ((try simp only [depth_under_make, depth_under_kw, depth_in1, depth_deeper, depth_caller]); (try dsimp only [tA]); omega)
  k_with "getAttr ref" => (k_here; (with_reducible show wpAny _ _ (getAttr (Value.ref _) ("args" : Str) _) _ _ _); k_dflt (refine' get_args (D := 41) ?zF ?zX ?zx ?zc ?zd ?zo ?zi ?za ?zg ?zb ?_; (case zF => k_asm); (case zX => k_asm); (case zx => exact News.get (by k_asm) (by k_mem)); (case zc => rfl); (case zd => rfl); (case zo => rfl); (case zi => kernel_rfl); (case za => k_is); (case zg => k_is); (case zb => k_is)))
  k_with "call builtin:isinstance" => (k_here; k_dflt (first | (refine' isy_callC ?zX ?zx ?zc ?_; (case zX => k_in); (case zx => exact News.get (by k_asm) (by k_mem)); (case zc => rfl)) | (refine' isn_callC (D := 41) ?zX ?zx ?zc ?ze ?zi ?za ?zg ?zb ?_; (case zX => k_in); (case zx => exact News.get (by k_asm) (by k_mem)); (case zc => rfl); (case ze => kernel_rfl); (case zi => kernel_rfl); (case za => k_is); (case zg => k_is); (case zb => k_is))))
  revert X; k_fill; intro X
  refine wpAny_call ?_
  k_dflt cell_enter
  k_steps
  all_goals exact hret _ _ _ (by assumption) (kst_newsOf (by assumption) (fun p hp => by simp only [List.mem_cons] at hp ⊢; exact .inr hp))
set_option maxRecDepth 100000 in
set_option maxHeartbeats 8000000 in
theorem kind78 (e d t : Addr) (B : Below A₀ base outer h₀) (F : Fr h₀ L s.heap m) (X : (Mine.hd.heap_39 w.params).In h₀) (N : News h₀ L s.heap ((e, excO 78 d t) :: (t, tup0) :: news)) (T : Top p loose mean mg mb h₀) (hk : cs.kind = .function) (hdp : dp + 1 < recursionLimit) (hun : un + 200 < cLine)
    (hret : ∀ t' h' tk', Fr h₀ L h' m → News h₀ L h' ((e, excO 78 d t) :: (t, tup0) :: news) → Q (.str "length" t') { s with heap := h', toks := tk' }) :
    wpAny (model Challenge.rw_ko0015_01.row.prog w) (tA hd dp un gd cn cs L a ccd cl outer) (call (.ref 171) [.ref e]) Q E s := by
  w_top off
  k_with_none
  k_with "k_room" => ((try simp only [depth_under_make, depth_under_kw, depth_in1, depth_deeper, depth_caller]); (try dsimp only [tA]); omega)
  k_with "getAttr ref" => (k_here; (with_reducible show wpAny _ _ (getAttr (Value.ref _) ("args" : Str) _) _ _ _); k_dflt (refine' get_args (D := 41) ?zF ?zX ?zx ?zc ?zd ?zo ?zi ?za ?zg ?zb ?_; (case zF => k_asm); (case zX => k_asm); (case zx => exact News.get (by k_asm) (by k_mem)); (case zc => rfl); (case zd => rfl); (case zo => rfl); (case zi => kernel_rfl); (case za => k_is); (case zg => k_is); (case zb => k_is)))
  k_with "call builtin:isinstance" => (k_here; k_dflt (first | (refine' isy_callC ?zX ?zx ?zc ?_; (case zX => k_in); (case zx => exact News.get (by k_asm) (by k_mem)); (case zc => rfl)) | (refine' isn_callC (D := 41) ?zX ?zx ?zc ?ze ?zi ?za ?zg ?zb ?_; (case zX => k_in); (case zx => exact News.get (by k_asm) (by k_mem)); (case zc => rfl); (case ze => kernel_rfl); (case zi => kernel_rfl); (case za => k_is); (case zg => k_is); (case zb => k_is))))
  revert X; k_fill; intro X
  refine wpAny_call ?_
  k_dflt cell_enter
  k_steps
  all_goals exact hret _ _ _ (by assumption) (kst_newsOf (by assumption) (fun p hp => by simp only [List.mem_cons] at hp ⊢; exact .inr hp))
end
end
end Mine
end

section
open PySem PySem.W PyProof.Rows PySem.Calls PySem.Spec PyProof.Rows.LCg PyProof.Rows.LCt
set_option maxRecDepth 100000
namespace Mine
section
variable {prog : Program} {w : World} {A : Around} {E : Value → Shared → Prop} {s : Shared} {h₀ : Heap} {L : Addr} {m : Str → Option Value} {env : Env}
abbrev Keeps (news nw : List (Addr × Obj)) : Prop := ∀ p ∈ news, p ∈ nw
noncomputable def SrcB (prog : Program) (w : World) (A : Around) (h₀ : Heap) (L : Addr) (m : Str → Option Value) (env : Env) (ct elt : Expr) (x : Str) (scope : Scope) (cl : List (Str × Addr)) (S : List (Addr × Obj) → Prop) (Fin : Shared → List Value → List (Addr × Obj) → Prop) (xv : Value) (s₁ : Shared) : Prop :=
  ∃ b t news, xv = .bytes b t ∧ A.handled = none ∧ Fr h₀ L s₁.heap m ∧ News h₀ L s₁.heap news ∧ S news ∧ b.size ≤ sizeLine ∧
    ∀ g, CompRestT prog w A h₀ L m env ct elt x scope cl { s₁ with heap := g } S (fun i v => ∃ c u, b[i]? = some c ∧ v = .int (c.toNat : Int) u) (Fin { s₁ with heap := g }) b.size 0 [] news
theorem Assign_ListComp_B {ct elt iter : Expr} {x y : Str} {px py : Pos} {scope : Scope} {cl : List (Str × Addr)} {pos spos : Pos} {Q : Flow → Shared → Prop} {news₀ : List (Addr × Obj)} (_F₀ : Fr h₀ L s.heap m) (_N₀ : News h₀ L s.heap news₀) (hLe : env.locals = L)
    (hsw : swapsWith (.ListComp elt [⟨.Name x px, iter, [ct], 0⟩] scope pos) (some (.Name y py)) spos.line env = pure true)
    (hclos : closureFor scope env = pure cl) (hcell : ∀ z ∈ scope.names, z.2 ≠ .cell) (hkind : scope.kind = .function)
    (hnames : ∀ z ∈ scope.names, z.2 = .local → scope.names.lookup z.1 = some .local) (hx : scope.names.lookup x = some .local)
    (hy : env.kindOf y = some .local) (hp : (env.scope.kind == .class || (env.scope.kind == .module && env.locals != env.globals)) = false)
    (h : wpAny (model prog w) A (eval iter env) (SrcB prog w A h₀ L m env ct elt x scope cl (Keeps news₀) (fun s₂ => FinA h₀ L m s₂ y Q)) E s)
    (hs : ∀ x, foldedSetIterable iter env x = pure x := by intro _; rfl) :
    wpAny (model prog w) A (exec (.Assign [.Name y py] (.ListComp elt [⟨.Name x px, iter, [ct], 0⟩] scope pos) spos) env) Q E s := by
  subst hLe
  rw [exec_Assign_Name_used _ _ _ _ hsw]
  refine wpAny_bind (wpAny_standAt (wpAny_bind ?_))
  show wpAny _ A (do let _ ← comprehension (.ListComp elt [⟨.Name x px, iter, [ct], 0⟩] scope pos) scope env _ (newList []) false (eval iter env) (some (assign (.Name y py) env))) _ _ s
  refine wpAny_bind (wpAny_mono (wpAny_comprehension_free (use := some (assign (.Name y py) env)) (Q := fun _ s' => Q .next s') rfl hs hclos hkind hnames
    (wpAny_mono h (fun xv s₁ h₁ => ?_) fun _ _ e => e)) (fun _ s' hq => wpAny_pure (wpAny_pure hq)) fun _ _ e => e)
  obtain ⟨b, t, news, rfl, hh, F, N, hS, hsz, R⟩ := h₁
  refine KBw.pyIter_bytes ?_
  have W := walksX (prog := prog) (w := w) (ch := []) hh (.inl rfl) s₁.heap.objs.size (by simp) b t
  have up : ∀ b' o, s₁.heap.get? b' = some o → (s₁.heap.push { cls := .type "bytes_iterator", data := .fields #[.bytes b t, .int 0 0] }).get? b' = some o := fun b' o e => Heap.get?_push_of_some _ e
  refine block_T W hsz (fun i h st => by obtain ⟨⟨o, e, _⟩, _⟩ := st; exact ⟨o, e⟩) (fun i h h' o nw st e e' _ _ _ => ?_) hcell hkind hx ⟨⟨_, Heap.get?_push_size _ rfl, rfl, rfl⟩, fun q hq => nomatch hq⟩ (fun b' hb => ?_)
    (F.keeps up) (N.grown up) (Nat.ne_of_lt F.ns.lt) (next_is_new F) (fun p hp => Nat.ne_of_lt (Heap.lt_size (N p hp).1)) hS (R _) ?_
  · obtain ⟨⟨o', e1, r⟩, _⟩ := st
    rw [e] at e1
    cases e1
    exact ⟨⟨o, e', r⟩, fun q hq => nomatch hq⟩
  · simp only [List.map_nil, List.mem_singleton] at hb
    subst hb
    show s₁.heap.objs.size < (s₁.heap.push _).objs.size
    rw [Heap.size_push]
    exact Nat.lt_succ_self _
  · intro D C h' tk m' ys news' F' N' o1 hn hC₀ hD₀ hCL hDL hCD offC fin
    show wpAny _ A (assign (.Name y py) env (.ref D)) _ _ _
    refine wpAny_assign_Name (wpAny_storeName_local hy F'.ns (fun h₂ hn₂ hs₂ => ?_) hp)
    have hL₀ : h₀.get? env.locals = none := Heap.get?_none_of_le F'.above
    have F₂ : Fr h₀ env.locals h₂ (fun z => if z = y then some (.ref D) else m z) := ⟨hn₂, fun b o e => hs₂.extBut b o (fun q => by rw [q, hL₀] at e; cases e) (F'.keep b o e), F'.above⟩
    refine ⟨m', hn.sameBut hs₂ hCL, fun h'' hs'' => fin D h'' _ (F₂.change hs'' hCL hC₀) (fun p hp => ?_) o1⟩
    have z : h₂.get? p.1 = some p.2 := hs₂.extBut _ _ (N' p hp).2.1 (N' p hp).1
    refine ⟨hs''.extBut _ _ ?_ z, (N' p hp).2⟩
    rcases List.mem_cons.mp hp with rfl | hp
    · exact Ne.symm hCD
    · exact offC p hp
/-- the turns over a bytes: what a test keeps -/
theorem comp_bytes {ct elt : Expr} {x : Str} {scope : Scope} {cl : List (Str × Addr)} {b : Array UInt8} {ks : List Int} {news : List (Addr × Obj)} {Fin : List Value → List (Addr × Obj) → Prop} (T : Int → Bool) (hb : KBw.bInts b = ks)
    (turn : ∀ (c : Int) u ys I oI C oC D m₂ h tk nw (E' : Value → Shared → Prop), 0 ≤ c → c < 256 → (∀ p ∈ news, p ∈ nw) → NsObj oC m₂ → m₂ x = some (.int c u) → Fr h₀ L h m → News h₀ L h ((I, oI) :: (C, oC) :: (D, lst ys) :: nw) → Off3 I C D nw → ((@Ne Nat I C) ∧ (@Ne Nat I D) ∧ (@Ne Nat C D)) →
      wpAny (model prog w) A (isTrue ct (compEnvC scope cl C env) (eval ct (compEnvC scope cl C env))) (fun ok s' => if ok = true then
        wpAny (model prog w) A (eval elt (compEnvC scope cl C env)) (CompEnd h₀ L m { s with heap := h, toks := tk } I oI C oC D (lst ys) (fun nw' => ∀ p ∈ news, p ∈ nw') (fun y _ => T c = true ∧ ∃ t, y = .int c t)) E' s'
        else CompEnd h₀ L m { s with heap := h, toks := tk } I oI C oC D (lst ys) (fun nw' => ∀ p ∈ news, p ∈ nw') (fun _ _ => T c = false) Value.none s') E' { s with heap := h, toks := tk })
    (fin : ∀ ys nw, IntsAre ys (ks.filter T) → (∀ p ∈ news, p ∈ nw) → Fin ys nw) :
    CompRestT prog w A h₀ L m env ct elt x scope cl s (fun nw' => ∀ p ∈ news, p ∈ nw') (fun i v => ∃ c u, b[i]? = some c ∧ v = .int (c.toNat : Int) u) Fin b.size 0 [] news := by
  subst hb
  have main : ∀ (k i : Nat) (ys : List Value) (nw : List (Addr × Obj)), i + k = b.size → IntsAre ys (((KBw.bInts b).take i).filter T) → (∀ p ∈ news, p ∈ nw) →
      CompRestT prog w A h₀ L m env ct elt x scope cl s (fun nw' => ∀ p ∈ news, p ∈ nw') (fun i v => ∃ c u, b[i]? = some c ∧ v = .int (c.toNat : Int) u) Fin k i ys nw := by
    intro k
    induction k with
    | zero =>
      intro i ys nw hi ha hs
      refine CompRestT.zero (fin ys nw ?_ hs)
      rw [List.take_of_length_le (by rw [KBw.ints_length]; omega)] at ha
      exact ha
    | succ k ih =>
      intro i ys nw hi ha hs
      refine CompRestT.succ fun v I oI C oC D m₂ h tk E' hv hC hx F N off ne => ?_
      obtain ⟨c, u, hc, rfl⟩ := hv
      have hn' := KBw.ints_get hc
      have hr := KBw.ints_in (List.mem_of_getElem? hn')
      have hs' : (KBw.bInts b).take (i + 1) = (KBw.bInts b).take i ++ [(c.toNat : Int)] := by simp [List.take_add_one, hn']
      refine wpAny_mono (turn _ u ys I oI C oC D m₂ h tk nw E' hr.1 hr.2 hs hC hx F N off ne) (fun ok s' hq => ?_) fun _ _ e => e
      by_cases hok : ok = true
      · rw [if_pos hok] at hq ⊢
        refine wpAny_mono hq (fun y s'' he => ?_) fun _ _ e => e
        obtain ⟨h', tk', nw', e1, e2, e3, e4, e5, hT, t, rfl⟩ := he
        refine ⟨h', tk', nw', e1, e2, e3, e4, e5, ih (i + 1) _ nw' (by omega) ?_ e5⟩
        rw [hs', List.filter_append, List.filter_cons_of_pos hT]
        exact IntsAre.append ha (.cons _ _ .nil)
      · rw [if_neg hok] at hq ⊢
        obtain ⟨h', tk', nw', e1, e2, e3, e4, e5, hT⟩ := hq
        refine ⟨h', tk', nw', e1, e2, e3, e4, e5, ih (i + 1) _ nw' (by omega) ?_ e5⟩
        rw [hs', List.filter_append, List.filter_cons_of_neg (by rw [hT]; decide), List.filter_nil, List.append_nil]
        exact ha
  exact main b.size 0 [] news (Nat.zero_add _) IntsAre.nil fun p hp => hp
end
end Mine
end

section
open PySem PySem.W PyProof.Rows PySem.Calls PySem.Spec
set_option maxRecDepth 100000
namespace Mine
theorem slot_bytes_index : Slot "bytes" "index" "bytes.index" :=
  .of (owner := "bytes") (n := "index") (by rw [typeLookup_type, builtinLookup_eq_fast]; kernel_rfl) (by decide +kernel) (by decide +kernel) (by decide +kernel)
    (by first | exact .inl (by decide +kernel) | exact .inr (by decide +kernel)) (by rw [isSubtype_type]; kernel_rfl)
theorem type_bytes_index : typeOf (.builtin "bytes.index") = pure (.type "method_descriptor") := by show builtinType _ = _; rw [builtinType_eq_fast]; kernel_rfl
theorem entry_bytes_index : entryFor table "bytes.index" = some Builtin.«bytes.index» := entryFor_of_tree (by kernel_rfl)
theorem args_bytes_index (a b : Value) : argsOk "bytes.index" ⟨[a, b], []⟩ := by
  unfold argsOk; rw [signature?_of (id := "bytes.index") (n := ['x', 'e', 'd', 'n', 'i']) (o := ['s', 'e', 't', 'y', 'b']) (by kernel_rfl) FB.owner_bytes]; kernel_rfl
section
open Builtin
theorem meets_index {o : Int} {t u : Tok} (h0 : 0 ≤ o) (h1 : o < 256) (h : isL o = true) : Meets («bytes.index» ⟨[.bytes LB t, .int o u], []⟩) (fun _ R s => R (.ok (.ret (.int (b64v o) s.toks))) { s with toks := s.toks + 1 }) := by
  refine .of_wp fun prog w A R s hS => ?_
  have hT : s.TypeIs (.int o u) "int" := rfl
  have n1 : typeLookup (.type "int") "__buffer__" = pure none := by rw [typeLookup_type, builtinLookup_eq_fast]; kernel_rfl
  have n2 : typeLookup (.type "int") "__index__" = pure (some (.builtin "int.__index__")) := by rw [typeLookup_type, builtinLookup_eq_fast]; kernel_rfl
  have hf := LB_find h0 h1 h
  unfold «bytes.index» Bytes.searchM
  refine wpAny_bind ?_
  unfold Bytes.searchArgs
  refine wpAny_bind (wpAny_of_eq (a := (.bytes LB t, [.int o u])) rfl ?_)
  refine wpAny_bind (wpAny_of_eq (a := none) rfl ?_)
  refine wpAny_bind (wpAny_of_eq (a := none) rfl ?_)
  refine wpAny_bind ?_
  refine wpAny_bind ?_
  refine wpAny_specialOf hT n1 ?_
  refine wpAny_bind (wpAny_specialOf hT n1 ?_)
  refine wpAny_pure ?_
  refine wpAny_bind (wpAny_specialOf hT n2 ?_)
  dsimp only
  rw [if_neg (by decide)]
  refine wpAny_bind (wpAny_of_eq (a := o) rfl ?_)
  rw [if_neg (by simp only [Bool.or_eq_true, decide_eq_true_eq]; omega)]
  refine wpAny_bind (wpAny_pure ?_)
  refine wpAny_bind (wpAny_of_eq (a := LB) rfl ?_)
  have hw : Bytes.window LB.size none none = (0, 64) := by decide +kernel
  rw [hw]
  refine wpAny_pure ?_
  dsimp only
  rw [if_neg (by simp)]
  simp only [Option.bind_some, Bool.false_eq_true, if_false]
  have h64 : (Int.toNat 0) = 0 ∧ (Int.toNat 64) = 64 := ⟨rfl, rfl⟩
  rw [h64.1, h64.2, hf]
  dsimp only
  rw [Int.toNat_of_nonneg (b64v_lo o)]
  exact wpAny_bind (wpAny_mkInt (wpAny_pure ⟨_, rfl, hS⟩))
end
section
variable {prog : Program} {w : World} {A : Around} {E : Value → Shared → Prop} {s : Shared} {M : Model}
theorem index_LB {o : Int} {t u : Tok} {Q : Value → Shared → Prop} (h0 : 0 ≤ o) (h1 : o < 256) (h : isL o = true) (hq : Q (.int (b64v o) s.toks) { s with toks := s.toks + 1 }) : wpAny (model prog w) A (call (.builtin "bytes.index") [.bytes LB t, .int o u]) Q E s :=
  call_meets slot_bytes_index (typeIs_bytes _ _ _) entry_bytes_index (args_bytes_index _ _) (meets_index h0 h1 h) hq
theorem method_index {b : Array UInt8} {t : Tok} {pl : Sem Bool} {Q : Value × List Value → Shared → Prop} (h : Q (.builtin "bytes.index", [.bytes b t]) s) : wpAny M A (getMethod (.bytes b t) "index" pl) Q E s := by
  with_reducible exact KBd.method_of (.bytes b t) (typeIs_bytes _ _ _) slot_bytes_index type_bytes_index KBd.noRef h
end
end Mine
end

section
open PySem PySem.W PyProof.Rows PySem.Calls PySem.Spec
set_option pp.deepTerms false
set_option pp.deepTerms.threshold 4
namespace Mine
theorem finA_of {h₀ : Heap} {L : Addr} {m : Str → Option Value} {s : Shared} {y : Str} {Q : Flow → Shared → Prop} {ys : List Value} {news : List (Addr × Obj)}
    (h : ∀ D h tk, Fr h₀ L h (fun z => if z = y then some (.ref D) else m z) → News h₀ L h ((D, W.listOf ys.toArray ys.length) :: news) → (∀ p ∈ news, p.1 ≠ D) → Q .next { s with heap := h, toks := tk }) : LCg.FinA h₀ L m s y Q ys news :=
  fun D h' tk F N o => h D h' tk F N (by
    have : ∀ (l : List (Addr × Obj)), LCg.Off1 D l → ∀ p ∈ l, p.1 ≠ D := by
      intro l
      induction l with
      | nil => intro _ p hp; cases hp
      | cons q r ih =>
        intro o p hp
        rcases List.mem_cons.mp hp with rfl | hp
        · exact o.1
        · exact ih o.2 p hp
    exact this news o)
noncomputable def CloInv (pre : List Int) (c : Int) : Prop := c = clo pre ∧ 0 ≤ c ∧ c ≤ pre.length
theorem clo_and {pre : List Int} {c : Int} (h : CloInv pre c) : CloInv pre c ∧ 0 ≤ c ∧ c ≤ pre.length := ⟨h, h.2⟩
theorem clo_eq {pre : List Int} {c : Int} (h : CloInv pre c) : c = clo pre := h.1
theorem clo_0 : CloInv [] 0 := ⟨rfl, by decide, by decide⟩
theorem clo_l {pre : List Int} {c o : Int} (h : CloInv pre c) (a : isL o = true) : CloInv (pre ++ [o]) 0 := ⟨by rw [clo_snoc, if_pos a], by decide, by rw [List.length_append]; omega⟩
theorem clo_e {pre : List Int} {c o : Int} (h : CloInv pre c) (a : ¬ isL o = true) (b : o = 61) : CloInv (pre ++ [o]) (c + 1) := by
  obtain ⟨h1, h2, h3⟩ := h
  refine ⟨by rw [clo_snoc, if_neg a, if_pos b, h1], by omega, ?_⟩
  rw [List.length_append, List.length_cons, List.length_nil]; omega
theorem clo_o {pre : List Int} {c o : Int} (h : CloInv pre c) (a : ¬ isL o = true) (b : o ≠ 61) : CloInv (pre ++ [o]) c := by
  obtain ⟨h1, h2, h3⟩ := h
  refine ⟨by rw [clo_snoc, if_neg a, if_neg b, h1], by omega, ?_⟩
  rw [List.length_append, List.length_cons, List.length_nil]; omega
noncomputable def NumInv (pre : List Int) (n : Int) : Prop := n = numF pre ∧ 0 ≤ n
theorem num_and {pre : List Int} {n : Int} (h : NumInv pre n) : NumInv pre n ∧ 0 ≤ n := ⟨h, h.2⟩
theorem num_0 : NumInv [] 0 := ⟨rfl, by decide⟩
theorem num_1 {pre : List Int} {n o : Int} (h : NumInv pre n) : NumInv (pre ++ [o]) (n * 64 + b64v o) := by
  have := b64v_lo o
  exact ⟨by rw [numF_snoc, h.1], by have := h.2; omega⟩
theorem isl_of {h₀ h : Heap} {L a : Addr} {vs : Array Value} {k : Nat} {news : List (Addr × Obj)} (N : News h₀ L h news) (hm : (a, W.listOf vs k) ∈ news) : h.IsList a vs := ⟨_, (N _ hm).1, rfl, _, rfl⟩
theorem in_of {ns : List Int} (h : ∀ o ∈ ns, isL o = true ∧ 0 ≤ o ∧ o < 256) : KBa.In ns := fun o ho => (h o ho).2
theorem in_rev {ns : List Int} (h : ∀ n ∈ ns, 0 ≤ n ∧ n < 256) : KBa.In ns.reverse := fun o ho => h o (List.mem_reverse.mp ho)
theorem rep_ints (n : Nat) : KBw.bInts ((List.replicate n ([61] : List UInt8)).flatten.toArray) = List.replicate n 61 := by
  induction n with
  | zero => rfl
  | succ n ih =>
    rw [List.replicate_succ, List.flatten_cons, List.replicate_succ, ← ih]
    rfl
theorem rng_of {b : Array UInt8} {ks : List Int} (hb : KBw.bInts b = ks) : ∀ o ∈ ks.filter isL, isL o = true ∧ 0 ≤ o ∧ o < 256 := fun o h => by
  obtain ⟨h1, h2⟩ := List.mem_filter.mp h
  subst hb
  exact ⟨h2, KBw.ints_in h1⟩
theorem p4 {x : Int} (a : 0 ≤ x) (b : x < 4) : ((4 : Int) ^ x.toNat) ≠ 0 ∧ ((4 : Int) ^ x.toNat).natAbs < 1073741824 := by
  have h : x = 0 ∨ x = 1 ∨ x = 2 ∨ x = 3 := by omega
  rcases h with rfl | rfl | rfl | rfl <;> exact ⟨by decide, by decide⟩
noncomputable def WInv (M : Int) (n₀ : Int) (os : List Int) (n : Int) : Prop := 0 ≤ n ∧ n = n₀ / 256 ^ os.length ∧ os = digs n₀ os.length ∧ (os.length : Int) ≤ M
theorem w_0 {n M : Int} (h : 0 ≤ n) (hM : 0 ≤ M) : WInv M n [] n := ⟨h, by simp, rfl, hM⟩
theorem w_1 {n₀ n M : Int} {os : List Int} (h : WInv M n₀ os n) (g : (os.length : Int) < M) : WInv M n₀ (os ++ [n.fmod 256]) (n.fdiv 256) := by
  obtain ⟨h1, h2, h3, _⟩ := h
  rw [Int.fmod_eq_emod_of_nonneg _ (by decide), Int.fdiv_eq_ediv_of_nonneg _ (by decide)]
  refine ⟨by omega, ?_, ?_, ?_⟩
  · rw [List.length_append, List.length_cons, List.length_nil, Nat.zero_add, Int.pow_succ, h2, Int.ediv_ediv_of_nonneg (Int.pow_nonneg (by decide))]
  · have : digs n₀ (os.length + 1) = digs n₀ os.length ++ [n₀ / 256 ^ os.length % 256] := by
      unfold digs
      rw [List.range_succ, List.map_append, List.map_cons, List.map_nil]
    rw [List.length_append, List.length_cons, List.length_nil, Nat.zero_add, this, ← h3, ← h2]
  · rw [List.length_append, List.length_cons, List.length_nil]; omega
theorem w_and {n₀ n M : Int} {os : List Int} (h : WInv M n₀ os n) (b : M ≤ 100) : WInv M n₀ os n ∧ 0 ≤ n ∧ os.length ≤ 100 ∧ ∀ x ∈ os, 0 ≤ x ∧ x < 256 := by
  refine ⟨h, h.1, by have := h.2.2.2; omega, fun x hx => ?_⟩
  rw [h.2.2.1] at hx
  obtain ⟨i, _, rfl⟩ := List.mem_map.mp hx
  omega
theorem fdiv4 {a x : Int} (h : 0 ≤ a) (h0 : 0 ≤ x) (h1 : x < 4) : 0 ≤ a.fdiv (4 ^ x.toNat) := by
  have := (p4 h0 h1).1
  have h2 : (0 : Int) ≤ 4 ^ x.toNat := Int.pow_nonneg (by decide)
  exact Int.fdiv_nonneg h h2
theorem three4 {k : Nat} (hk : k ≤ 100) : ((k : Int) * 3).fdiv 4 ≤ 100 ∧ 0 ≤ ((k : Int) * 3).fdiv 4 := by
  rw [Int.fdiv_eq_ediv_of_nonneg _ (by decide)]
  omega
theorem la_oct {ks os : List Int} {n x : Int} (a : (-((ks.filter isL).length : Int)).fmod 4 ≠ 3) (hn : NumInv (ks.filter isL) n) (W : WInv ((((ks.filter isL).length : Int) * 3).fdiv 4) (n.fdiv (4 ^ ((-((ks.filter isL).length : Int)).fmod 4).toNat)) os x) (h : ¬ (os.length : Int) < (((ks.filter isL).length : Int) * 3).fdiv 4) : os.reverse = (decB ks).1 := by
  obtain ⟨_, _, w3, w4⟩ := W
  rw [la_O a]
  unfold ansO
  have hl : os.length = (ks.filter isL).length * 3 / 4 := by
    rw [Int.fdiv_eq_ediv_of_nonneg _ (by decide)] at h w4
    omega
  rw [w3, hl, hn.1, Int.fdiv_eq_ediv_of_nonneg _ (Int.pow_nonneg (by decide))]
theorem cutL {h₀ h : Heap} {L : Addr} {x1 x2 x3 : Addr × Obj} {nw news : List (Addr × Obj)} (N : News h₀ L h (x1 :: x2 :: x3 :: nw)) (hs : ∀ p ∈ news, p ∈ nw) : News h₀ L h (x1 :: x2 :: news) := kst_newsOf N fun p hp => by
  simp only [List.mem_cons] at hp ⊢
  rcases hp with h | h | h
  · exact .inl h
  · exact .inr (.inl h)
  · exact .inr (.inr (.inr (hs p h)))
theorem cutM {h₀ h : Heap} {L : Addr} {x1 x2 x3 x4 x5 : Addr × Obj} {nw news : List (Addr × Obj)} (N : News h₀ L h (x1 :: x2 :: x3 :: x4 :: x5 :: nw)) (hs : ∀ p ∈ news, p ∈ nw) : News h₀ L h (x1 :: x3 :: news) := kst_newsOf N fun p hp => by
  simp only [List.mem_cons] at hp ⊢
  rcases hp with h | h | h
  · exact .inl h
  · exact .inr (.inr (.inl h))
  · exact .inr (.inr (.inr (.inr (.inr (hs p h)))))
noncomputable section
section
variable {w : World} {p : Program} {loose : List Str} {mean : ExcName → Option Value} {mg mb : Str → Option Value} {dp un : Nat} {gd : Option (List Code)} {cn : Str} {cs : Scope} {a : Addr} {ccd : Value} {cl : List (Str × Addr)} {outer : List Env} {A₀ : Around} {base h₀ : Heap} {L : Addr} {m : Str → Option Value} {news : List (Addr × Obj)} {s : Shared} {Q E : Value → Shared → Prop}
theorem sz_of {b : Array UInt8} {ks : List Int} (hb : KBw.bInts b = ks) (hn : ks.length ≤ 100) : b.size ≤ sizeLine := by rw [sizeLine_eq, ← KBw.ints_length, hb]; omega
set_option maxRecDepth 100000 in
set_option maxHeartbeats 8000000 in
theorem law_answer (b : Array UInt8) (tb : Tok) (ks : List Int) (hb : KBw.bInts b = ks) (hn : ks.length ≤ 100) (l₀ : Addr) (vs₀ : List Value) (ns₀ : List Int) (hl₀ : base.IsList l₀ vs₀.toArray) (hi₀ : IntsAre vs₀ ns₀) (hn₀ : ns₀.length ≤ 63) (B : Below A₀ base outer h₀) (F : Fr h₀ L s.heap m) (X : (Mine.hd.heap_39 w.params).In h₀) (N : News h₀ L s.heap news) (T : Top p loose mean mg mb h₀) (hk : cs.kind = .function) (hdp : dp + 3 < recursionLimit) (hun : un + 200 < cLine)
    (hret : ∀ D l b' t' vs n h' tk', Fr h₀ L h' m → News h₀ L h' ((D, tupO b' t' l) :: (l, W.listOf vs n) :: news) → KBw.bInts b' = (decB ks).1 → KindsOf vs.toList (decB ks).2 → Q (.ref D) { s with heap := h', toks := tk' }) :
    wpAny (model Challenge.rw_ko0015_01.row.prog w) (tA none dp un gd cn cs L a ccd cl outer) (call (.ref 164) [.bytes b tb]) Q E s := by
  have hfl := List.length_filter_le isL ks
  have hrng := rng_of hb
  w_top off
  k_with_none
  k_with "k_room" => ((try simp only [depth_under_make, depth_under_kw, depth_in1, depth_deeper, depth_caller]); (try dsimp only [tA]); omega)
  k_with "call ref" => (k_here; (with_reducible show wpAny _ _ (call (Value.ref 152) _) _ _ _); (k_dflt (refine' law_letters ?zk1 ?zk2 ?zk3 ?zk4 ?zk5 ?zk6 ?zk7 ?zk8 ?_; (case zk1 => k_asm); (case zk2 => k_asm); (case zk3 => k_asm); (case zk4 => k_asm); (case zk5 => k_asm); (case zk6 => exact rfl); (case zk7 => k_room); (case zk8 => ktr_units))); intro t' h' tk' F' N'; (try k_sweep))
  k_with "compareOp In" => (k_here; (with_reducible show wpAny _ _ (compareOp CmpOp.In (Value.int _ _) (Value.bytes LB _)) _ _ _); refine in_LB (by assumption) (by assumption) ?_)
  k_with "exec Assign cons ListComp" => (k_here; k_dflt (refine Assign_ListComp_B (by k_asm) (by k_asm) (by rfl) (by with_unfolding_all rfl) (by with_unfolding_all rfl) (by decide) (by rfl) (by decide) (by rfl) (by rfl) (by rfl) ?_))
  k_with "SrcB" => (k_dflt (refine ⟨_, _, _, rfl, rfl, by k_asm, by k_asm, fun p hp => hp, sz_of (by assumption) (by assumption), fun g => ?_⟩))
  k_with "CompRestT" => (k_dflt (refine' comp_bytes isL (by assumption) ?zturn ?zfin); (case' zturn => (intro c u ys I oI C oC D m₂ h tk nw E' kLo kHi kSub hC hx F' N' off' ne')); (case' zfin => (intro ys nw hys hsub)))
  k_with "FinA" => (k_dflt (refine finA_of ?_); intro D' h' tk' F' N' o1'; (try k_sweep))
  k_with "CompEnd" => k_dflt (first | exact ⟨_, _, _, rfl, by assumption, by assumption, by assumption, by assumption, by assumption, _, rfl⟩ | exact ⟨_, _, _, rfl, by assumption, by assumption, by assumption, by assumption, Bool.eq_false_iff.mpr (by assumption)⟩ | exact ⟨_, _, _, rfl, by assumption, by assumption, by assumption, by assumption, by assumption⟩)
  k_with "kst_facts" => ((try dsimp only); first | exact True.intro | exact IntsAre.nil | exact IntsAre.append (by with_reducible assumption) (.cons _ _ .nil) | with_reducible assumption | fail "kst_facts own")
  k_with "pyIter ref" => (k_extra "pyIter ref")
  k_with "getMethod bytes" => (k_here; k_dflt (refine method_index ?_))
  k_with "call builtin:bytes.index" => (k_here; k_dflt (refine index_LB (hrng _ (by assumption)).2.1 (hrng _ (by assumption)).2.2 (hrng _ (by assumption)).1 ?_))
  k_with "binaryOp FloorDiv int int" => (k_here; k_dflt (refine floordiv_int (p4 (by assumption) (by assumption)).1 ?_ (Or.inl (PyProof.noPylong_small (p4 (by assumption) (by assumption)).2))))
  k_with "call type:bytes" => (k_here; k_dflt (refine' make_bytesX (hd := none) ?zF ?zN ?zA ?zc ?zl ?zi ?zr ?zn ?_; (case zF => k_asm); (case zN => k_asm); (case zA => rfl); (case zc => exact .inl rfl); (case zl => exact isl_of (by k_asm) (by k_mem)); (case zi => assumption); (case zr => first | exact in_of hrng | exact in_rev (by with_reducible assumption)); (case zn => omega)); intro h' t' tk' F' N' e'; (try k_sweep))
  k_with "binaryOp Add bytes bytes" => (k_here; (with_reducible show wpAny _ _ (binaryOp Operator.Add (Value.bytes _ _) (Value.bytes _ _)) _ _ _); (k_dflt refine KBa.add_K (by with_reducible assumption) (rep_ints _) (by (try simp only [List.length_replicate]); omega) ?_); intro t' k' kbaApp)
  revert X; k_fill; intro X
  refine wpAny_call ?_
  k_dflt cell_enter
  (k_with "pyIter bytes" => k_state (fun pre closing => CloInv pre closing ∧ 0 ≤ closing ∧ closing ≤ pre.length) "closing")
  (k_with "pyIter ref" => k_state (fun pre number => NumInv pre number ∧ 0 ≤ number) "number")
  (k_with "state" => first | (refine w_and (M := (((ks.filter isL).length : Int) * 3).fdiv 4) ?_ (three4 (Nat.le_trans hfl hn)).1; first | exact w_0 (fdiv4 (by assumption) (by assumption) (by assumption)) (three4 (Nat.le_trans hfl hn)).2 | exact w_1 (by assumption) (by assumption)) | ((with_reducible refine num_and ?_); first | with_reducible exact num_0 | with_reducible exact num_1 (by assumption)) | (with_reducible refine clo_and ?_); first | with_reducible exact clo_0 | with_reducible exact clo_l (by assumption) (by assumption) | with_reducible exact clo_e (by assumption) (by first | assumption | exact Bool.eq_false_iff.mp (by assumption)) (by assumption) | with_reducible exact clo_o (by assumption) (by first | assumption | exact Bool.eq_false_iff.mp (by assumption)) (by assumption))
  (k_with "measure" => ((try simp only [List.length_append, List.length_cons, List.length_nil]); omega))
  (k_with "exec While Compare cons nil" => (k_while_given ["number!"] (fun n₀ script octets number => WInv (Int.fdiv (((ks.filter isL).length : Int) * 3) 4) n₀ octets number ∧ 0 ≤ number ∧ octets.length ≤ 100 ∧ ∀ n ∈ octets, 0 ≤ n ∧ n < 256) (fun n₀ script octets number => 200 - octets.length) "octets" "number"))
  k_steps
  all_goals with_reducible first
    | exact hret _ _ _ _ _ _ _ _ (by assumption) (cutL (by assumption) (by assumption)) (by k_dflt (rw [la_L (by assumption)]; exact hb)) (by k_dflt (rw [la_L (by assumption)]; exact ⟨⟨_, rfl⟩, True.intro⟩))
    | exact hret _ _ _ _ _ _ _ _ (by assumption) (cutM (by assumption) (by assumption)) ((by assumption : KBw.bInts _ = _).trans (la_oct (by assumption) (by assumption) (by assumption) (by assumption))) (by k_dflt (rw [la_1 (by assumption) (clo_eq (by assumption)) (by assumption)]; exact ⟨⟨_, rfl⟩, True.intro⟩))
    | exact hret _ _ _ _ _ _ _ _ (by assumption) (cutM (by assumption) (by assumption)) ((by assumption : KBw.bInts _ = _).trans (la_oct (by assumption) (by assumption) (by assumption) (by assumption))) (by k_dflt (rw [la_2 (by assumption) (clo_eq (by assumption)) (by assumption) (by assumption) (by assumption) (by assumption)]; exact ⟨⟨_, rfl⟩, ⟨_, rfl⟩, True.intro⟩))
    | exact hret _ _ _ _ _ _ _ _ (by assumption) (cutM (by assumption) (by assumption)) ((by assumption : KBw.bInts _ = _).trans (la_oct (by assumption) (by assumption) (by assumption) (by assumption))) (by k_dflt (rw [la_3 (by assumption) (clo_eq (by assumption)) (by assumption) (by assumption) (by assumption) (by assumption)]; exact ⟨⟨_, rfl⟩, True.intro⟩))
    | exact hret _ _ _ _ _ _ _ _ (by assumption) (cutM (by assumption) (by assumption)) ((by assumption : KBw.bInts _ = _).trans (la_oct (by assumption) (by assumption) (by assumption) (by assumption))) (by k_dflt (rw [la_4 (by assumption) (clo_eq (by assumption)) (by assumption) (by assumption) (by assumption) (by assumption) (by assumption)]; exact ⟨⟨_, rfl⟩, True.intro⟩))
    | exact hret _ _ _ _ _ _ _ _ (by assumption) (cutM (by assumption) (by assumption)) ((by assumption : KBw.bInts _ = _).trans (la_oct (by assumption) (by assumption) (by assumption) (by assumption))) (by k_dflt (rw [la_5 (by assumption) (clo_eq (by assumption)) (by assumption) (by assumption) (by assumption) (by assumption) (by assumption)]; exact True.intro))
end
end
end Mine
end

section
open PySem PySem.W PyProof.Rows PySem.Calls PySem.Spec
set_option pp.deepTerms false
set_option pp.deepTerms.threshold 4
namespace Mine
noncomputable section
section
theorem rowF_len (ns : List Int) : (rowF ns).1.length ≤ ns.length := by
  have h := snoc_all (f := rowStep (modeV ns)) (P := fun pre st => st.1.length ≤ pre.length) (C := fun _ => True) (fun pre c st _ h => by
    have h : st.1.length ≤ pre.length := h
    show (rowStep (modeV ns) st c).1.length ≤ (pre ++ [c]).length
    unfold rowStep
    (repeat' split) <;> simp only [List.length_append, List.length_cons, List.length_nil] <;> omega) (ns.drop 1) [] ([], 0, 0) (fun _ _ => trivial) (Nat.le_refl _)
  have h : (rowF ns).1.length ≤ ([] ++ ns.drop 1).length := h
  rw [List.nil_append, List.length_drop] at h
  omega
theorem rows_len {ns : List Int} {x : Int} (h : ns.length ≤ 63) : ((rowF ns).1 ++ List.replicate (x.fmod 5).toNat 61).length ≤ 100 := by
  have h1 := rowF_len ns
  have h2 : x.fmod 5 < 5 := Int.fmod_lt_of_pos _ (by decide)
  rw [List.length_append, List.length_replicate]
  omega
theorem rowF_len_of {ns : List Int} {b : Array UInt8} (_ : KBw.bInts b = (rowF ns).1) : (rowF ns).1.length ≤ ns.length := rowF_len ns
theorem f5 (x : Int) : 0 ≤ x.fmod 5 ∧ x.fmod 5 < 5 := fmod_rng x (by decide)
theorem mul5 {prog : Program} {w : World} {A : Around} {E : Value → Shared → Prop} {s : Shared} {x : Int} {t u : Tok} {Q : Value → Shared → Prop} (h : ∀ t' k, 0 ≤ x.fmod 5 → x.fmod 5 < 5 → Q (.bytes ((List.replicate (x.fmod 5).toNat ([61] : List UInt8)).flatten).toArray t') { s with toks := k }) :
    wpAny (model prog w) A (binaryOp .Mult (.bytes ([61] : List UInt8).toArray t) (.int (x.fmod 5) u)) Q E s :=
  bytes_mul_any (List.cons_ne_nil _ _) (Int.le_trans (by decide) (f5 _).1) (Int.le_of_lt (Int.lt_of_lt_of_le (f5 _).2 (by decide))) (by decide) (fun t k => h t k (f5 x).1 (f5 x).2)
theorem allLt_2 {l : Addr} {x y : Addr × Obj} {r : List (Addr × Obj)} (h : AllLt l (x :: y :: r)) : AllLt l r := h.2.2
theorem k0_of {ks ls : List Int} {n : Array Value} (e : decB ks = (ls, [])) (h : KindsOf n.toList (decB ks).2) : n = #[] := by rw [e] at h; exact kinds0 h
theorem k1_of {ks ls : List Int} {C : Addr} {n : Array Value} (e : decB ks = (ls, [C])) (h : KindsOf n.toList (decB ks).2) : ∃ t, n = #[.str (kstr C) t] := by rw [e] at h; exact kinds1 h
theorem k2_of {ks ls : List Int} {C C' : Addr} {n : Array Value} (e : decB ks = (ls, [C, C'])) (h : KindsOf n.toList (decB ks).2) : ∃ t u, n = #[.str (kstr C) t, .str (kstr C') u] := by rw [e] at h; exact kinds2 h
theorem ko_of {ks ls : List Int} {l : List Addr} {b : Array UInt8} (e : decB ks = (ls, l)) (h : KBw.bInts b = (decB ks).1) : KBw.bInts b = ls := by rw [e] at h; exact h
theorem ne_same {prog : Program} {w : World} {A : Around} {E : Value → Shared → Prop} {s : Shared} {a b : Array UInt8} {ls : List Int} {t u : Tok} {Q : Value → Shared → Prop} (ha : KBw.bInts a = ls) (hb : KBw.bInts b = ls) (h : Q (.bool false) s) :
    wpAny (model prog w) A (compareOp .NotEq (.bytes a t) (.bytes b u)) Q E s := by
  have e : (a.toList != b.toList) = false := by
    have e := ints_inj (ha.trans hb.symm)
    rw [e]; simp
  refine ne_bytes ?_
  rw [e]
  exact h
theorem shp (C : Addr) (h : C = 54 ∨ C = 66 ∨ C = 78) : SeqAt.shaped (.list [.str (kstr C)]) = true := by
  rcases h with rfl | rfl | rfl <;> decide +kernel
theorem ne_one {prog : Program} {w : World} {A : Around} {E : Value → Shared → Prop} {s : Shared} {h₀ : Heap} {L l₁ l₂ C : Addr} {t₁ t₂ : Tok} {n : Nat} {news : List (Addr × Obj)} {Q : Value → Shared → Prop} (hC : C = 54 ∨ C = 66 ∨ C = 78) (N : News h₀ L s.heap news) (m₁ : (l₁, LCg.lst [.str (kstr C) t₁]) ∈ news) (m₂ : (l₂, listOf #[.str (kstr C) t₂] n) ∈ news) (hu : A.units + 64 < cLine) (h : Q (.bool false) s) :
    wpAny (model prog w) A (compareOp .NotEq (.ref l₁) (.ref l₂)) Q E s := by
  refine ne_dataH (da := .list [.str (kstr C)]) (db := .list [.str (kstr C)]) (reads_list_at (News.get N m₁) rfl rfl (.cons (Reads.str _ _) .nil)) (reads_list_at (News.get N m₂) rfl rfl (.cons (Reads.str _ _) .nil)) (shp C hC) (shp C hC) hu ?_
  have e : PyData.eqv (.list [.str (kstr C)]) (.list [.str (kstr C)]) = true := by simp [PyData.eqv, PyData.eqvAll]
  rw [e]
  exact h
theorem kdrop {h₀ h : Heap} {L : Addr} {x y : Addr × Obj} {news : List (Addr × Obj)} (N : News h₀ L h (x :: y :: news)) : News h₀ L h news := kst_newsOf N fun p hp => List.mem_cons_of_mem _ (List.mem_cons_of_mem _ hp)
theorem kcut {h₀ h : Heap} {L : Addr} {x y : Addr × Obj} {news : List (Addr × Obj)} (N : News h₀ L h news) (hx : x ∈ news) (hy : y ∈ news) : News h₀ L h (x :: y :: news) := kst_newsOf N fun p hp => by
  rcases List.mem_cons.mp hp with h | hp
  · exact h ▸ hx
  · rcases List.mem_cons.mp hp with h | hp
    · exact h ▸ hy
    · exact hp
section
variable {w : World} {p : Program} {loose : List Str} {mean : ExcName → Option Value} {mg mb : Str → Option Value} {hd : Option Value} {dp un : Nat} {gd : Option (List Code)} {cn : Str} {cs : Scope} {a : Addr} {ccd : Value} {cl : List (Str × Addr)} {outer : List Env} {A₀ : Around} {base h₀ : Heap} {L : Addr} {m : Str → Option Value} {news : List (Addr × Obj)} {s : Shared} {Q E : Value → Shared → Prop}
theorem kindC (C e d t : Addr) (hC : C = 54 ∨ C = 66 ∨ C = 78) (B : Below A₀ base outer h₀) (F : Fr h₀ L s.heap m) (X : (Mine.hd.heap_39 w.params).In h₀) (N : News h₀ L s.heap ((e, excO C d t) :: (t, tup0) :: news)) (T : Top p loose mean mg mb h₀) (hk : cs.kind = .function) (hdp : dp + 1 < recursionLimit) (hun : un + 200 < cLine)
    (hret : ∀ t' h' tk', Fr h₀ L h' m → News h₀ L h' ((e, excO C d t) :: (t, tup0) :: news) → Q (.str (kstr C) t') { s with heap := h', toks := tk' }) :
    wpAny (model Challenge.rw_ko0015_01.row.prog w) (tA hd dp un gd cn cs L a ccd cl outer) (call (.ref 171) [.ref e]) Q E s := by
  rcases hC with rfl | rfl | rfl
  · exact kind54 e d t B F X N T hk hdp hun hret
  · exact kind66 e d t B F X N T hk hdp hun hret
  · exact kind78 e d t B F X N T hk hdp hun hret
set_option maxRecDepth 100000 in
set_option maxHeartbeats 8000000 in
theorem isi_b (b : Array UInt8) (t : Tok) (B : Below A₀ base outer h₀) (F : Fr h₀ L s.heap m) (X : (Mine.hd.heap_39 w.params).In h₀) (N : News h₀ L s.heap news) (T : Top p loose mean mg mb h₀) (hk : cs.kind = .function) (hret : ∀ tk, Q (.bool true) { s with toks := tk }) :
    wpAny (model Challenge.rw_ko0015_01.row.prog w) (tA hd dp un gd cn cs L a ccd cl outer) (call (.builtin "isinstance") [.bytes b t, .type "bytes"]) Q E s := by
  w_top off
  k_with_none
  k_with "call ref" => (k_here; (with_reducible show wpAny _ _ (call (Value.ref 159) _) _ _ _); (k_dflt (refine' law_row _ _ _ ?zk9 ?zka ?zkb ?zk1 ?zk2 ?zk3 ?zk4 ?zk5 ?zk6 ?zk7 ?zk8 ?_; (case zk9 => assumption); (case zka => assumption); (case zkb => omega); (case zk1 => k_asm); (case zk2 => k_asm); (case zk3 => k_asm); (case zk4 => k_asm); (case zk5 => k_asm); (case zk6 => exact rfl); (case zk7 => k_room); (case zk8 => ktr_units))); intro b' t' h' tk' F' N' hb'; (have hrl := rowF_len_of hb'); (try k_sweep); (try dsimp only))
  k_with "call ref" => (k_here; (with_reducible show wpAny _ _ (call (Value.ref 164) _) _ _ _); (k_dflt (refine' law_answer _ _ _ ?zhb ?zhn _ _ _ ?zk9 ?zka ?zkb ?zk1 ?zk2 ?zk3 ?zk4 ?zk5 ?zk6 ?zk7 ?zk8 ?_; (case zhb => assumption); (case zhn => exact rows_len (by omega)); (case zk9 => assumption); (case zka => assumption); (case zkb => omega); (case zk1 => k_asm); (case zk2 => k_asm); (case zk3 => k_asm); (case zk4 => k_asm); (case zk5 => k_asm); (case zk6 => exact rfl); (case zk7 => k_room); (case zk8 => ktr_units))); intro D l b' t' vs n h' tk' F' N' hO hK; (try k_sweep); (try dsimp only))
  k_with "binaryOp Add bytes bytes" => (k_here; (with_reducible show wpAny _ _ (binaryOp Operator.Add (Value.bytes _ _) (Value.bytes _ _)) _ _ _); (k_dflt refine KBa.add_K (by with_reducible assumption) (rep_ints _) (by (try simp only [List.length_replicate]); omega) ?_); intro t' k' kbaApp)
  k_with "binaryOp Mult bytes int" => (k_here; (with_reducible show wpAny _ _ (binaryOp Operator.Mult (Value.bytes (List.toArray _) _) (Value.int (Int.fmod _ 5) _)) _ _ _); (k_dflt (refine mul5 ?_)); intro _ _ _ _)
  k_with "call ref" => (k_here; (with_reducible show wpAny _ _ (call (Value.ref 145) _) _ _ _); (k_dflt (refine' decode _ _ _ ?zhb ?zhn ?zk1 ?zk2 ?zk3 ?zkx ?zk4 ?zk5 ?zkt ?zk6 ?zk7 ?zk8 ?zg0 ?zg1 ?zg2; (case zhb => with_reducible assumption); (case zhn => exact rows_len (by omega)); (case zk1 => k_asm); (case zk2 => k_asm); (case zk3 => k_asm); (case zkx => k_asm); (case zk4 => k_asm); (case zk5 => k_asm); (case zkt => k_asm); (case zk6 => exact rfl); (case zk7 => k_room); (case zk8 => ktr_units))); (case' zg0 => (intro ls hls D l b' t' h' tk' F' N' ap' hb'; (have hO' := ko_of hls (by assumption)); (have hv := k0_of hls (by assumption)); (subst hv); (have apO := allLt_2 ap'); (try k_sweep); (try dsimp only))); (case' zg1 => (intro ls C hls hC D l e d t b' t' h' tk' F' N' ap' hb'; (have hO' := ko_of hls (by assumption)); (obtain ⟨tk1, hv⟩ := k1_of hls (by assumption)); (subst hv); (have apO := allLt_2 ap'); (try k_sweep); (try dsimp only))); (case' zg2 => (intro ls C C' hls hC D l e d t e2 d2 t2 b' t' h' tk' F' N' ap' hb'; (have hO' := ko_of hls (by assumption)); (obtain ⟨tk1, tk2, hv⟩ := k2_of hls (by assumption)); (subst hv); (have apO := allLt_2 ap'); (obtain ⟨hC1, hC2⟩ := hC); (subst hC1); (subst hC2); (try k_sweep); (try dsimp only))))
  k_with "compareOp NotEq bytes bytes" => (k_here; refine ne_same (by with_reducible assumption) (by with_reducible assumption) ?_)
  revert X; k_fill; intro X
  k_steps
  all_goals exact hret _
end
theorem append_own {prog : Program} {w : World} {A : Around} {E : Value → Shared → Prop} {s : Shared} {h₀ : Heap} {L D : Addr} {m : Str → Option Value} {news own : List (Addr × Obj)} {its : Array Value} {n : Nat} {x : Value} {Q : Value → Shared → Prop} (F : Fr h₀ L s.heap m) (N : News h₀ L s.heap news) (hm : (D, listOf its n) ∈ news) (ho : ∀ p ∈ own, p ∈ news) (ha : AllLt D own) (hsz : its.size ≤ sizeLine)
    (h : ∀ h', Fr h₀ L h' m → News h₀ L h' ((D, listOf (its.push x) (n + 1)) :: own) → Q .none { s with heap := h' }) : wpAny (model prog w) A (call (.builtin "list.append") [.ref D, x]) Q E s := by
  refine append_K F (kst_newsOf N (l' := (D, listOf its n) :: own) fun p hp => ?_) (Upd.head fun p hp => Nat.ne_of_lt (kst_ltOf ha p hp)) h hsz
  rcases List.mem_cons.mp hp with e | hp
  · exact e ▸ hm
  · exact ho p hp
set_option maxRecDepth 100000 in
set_option maxHeartbeats 8000000 in
theorem law_holds : Challenge.rw_ko0015_01.Holds := by
  w_top off
  k_with_none
  k_with "call ref" => (k_here; (with_reducible show wpAny _ _ (call (Value.ref 159) _) _ _ _); (k_dflt (refine' law_row _ _ _ ?zk9 ?zka ?zkb ?zk1 ?zk2 ?zk3 ?zk4 ?zk5 ?zk6 ?zk7 ?zk8 ?_; (case zk9 => assumption); (case zka => assumption); (case zkb => omega); (case zk1 => k_asm); (case zk2 => k_asm); (case zk3 => k_asm); (case zk4 => k_asm); (case zk5 => k_asm); (case zk6 => exact rfl); (case zk7 => k_room); (case zk8 => ktr_units))); intro b' t' h' tk' F' N' hb'; (have hrl := rowF_len_of hb'); (try k_sweep); (try dsimp only))
  k_with "call ref" => (k_here; (with_reducible show wpAny _ _ (call (Value.ref 164) _) _ _ _); (k_dflt (refine' law_answer _ _ _ ?zhb ?zhn _ _ _ ?zk9 ?zka ?zkb ?zk1 ?zk2 ?zk3 ?zk4 ?zk5 ?zk6 ?zk7 ?zk8 ?_; (case zhb => assumption); (case zhn => exact rows_len (by omega)); (case zk9 => assumption); (case zka => assumption); (case zkb => omega); (case zk1 => k_asm); (case zk2 => k_asm); (case zk3 => k_asm); (case zk4 => k_asm); (case zk5 => k_asm); (case zk6 => exact rfl); (case zk7 => k_room); (case zk8 => ktr_units))); intro D l b' t' vs n h' tk' F' N' hO hK; (try k_sweep); (try dsimp only))
  k_with "binaryOp Add bytes bytes" => (k_here; (with_reducible show wpAny _ _ (binaryOp Operator.Add (Value.bytes _ _) (Value.bytes _ _)) _ _ _); (k_dflt refine KBa.add_K (by with_reducible assumption) (rep_ints _) (by (try simp only [List.length_replicate]); omega) ?_); intro t' k' kbaApp)
  k_with "binaryOp Mult bytes int" => (k_here; (with_reducible show wpAny _ _ (binaryOp Operator.Mult (Value.bytes (List.toArray _) _) (Value.int (Int.fmod _ 5) _)) _ _ _); (k_dflt (refine mul5 ?_)); intro _ _ _ _)
  k_with "call ref" => (k_here; (with_reducible show wpAny _ _ (call (Value.ref 145) _) _ _ _); (k_dflt (refine' decode _ _ _ ?zhb ?zhn ?zk1 ?zk2 ?zk3 ?zkx ?zk4 ?zk5 ?zkt ?zk6 ?zk7 ?zk8 ?zg0 ?zg1 ?zg2; (case zhb => with_reducible assumption); (case zhn => exact rows_len (by omega)); (case zk1 => k_asm); (case zk2 => k_asm); (case zk3 => k_asm); (case zkx => k_asm); (case zk4 => k_asm); (case zk5 => k_asm); (case zkt => k_asm); (case zk6 => exact rfl); (case zk7 => k_room); (case zk8 => ktr_units))); (case' zg0 => (intro ls hls D l b' t' h' tk' F' N' ap' hb'; (have hO' := ko_of hls (by assumption)); (have hv := k0_of hls (by assumption)); (subst hv); (have apO := allLt_2 ap'); (try k_sweep); (try dsimp only))); (case' zg1 => (intro ls C hls hC D l e d t b' t' h' tk' F' N' ap' hb'; (have hO' := ko_of hls (by assumption)); (obtain ⟨tk1, hv⟩ := k1_of hls (by assumption)); (subst hv); (have apO := allLt_2 ap'); (try k_sweep); (try dsimp only))); (case' zg2 => (intro ls C C' hls hC D l e d t e2 d2 t2 b' t' h' tk' F' N' ap' hb'; (have hO' := ko_of hls (by assumption)); (obtain ⟨tk1, tk2, hv⟩ := k2_of hls (by assumption)); (subst hv); (have apO := allLt_2 ap'); (obtain ⟨hC1, hC2⟩ := hC); (subst hC1); (subst hC2); (try k_sweep); (try dsimp only))))
  k_with "compareOp NotEq bytes bytes" => (k_here; refine ne_same (by with_reducible assumption) (by with_reducible assumption) ?_)
  k_with "call builtin:isinstance" => (k_here; (with_reducible show wpAny _ _ (call _ [Value.bytes _ _, Value.type "bytes"]) _ _ _); (k_dflt (refine' isi_b _ _ ?zk1 ?zk2 ?zk3 ?zk4 ?zk5 ?zk6 ?_; (case zk1 => k_asm); (case zk2 => k_asm); (case zk3 => k_asm); (case zk4 => k_asm); (case zk5 => k_asm); (case zk6 => exact rfl))); intro tk9)
  k_with "call ref" => (k_here; (with_reducible show wpAny _ _ (call (Value.ref 171) _) _ _ _); (k_dflt (refine' kindC _ _ _ _ ?zhc ?zk1 ?zk2 ?zk3 (kcut ?zkn ?zkx ?zky) ?zk5 ?zk6 ?zk7 ?zk8 ?_; (case zkn => k_asm); (case zkx => k_mem); (case zhc => first | assumption | exact .inl rfl | exact .inr (.inl rfl) | exact .inr (.inr rfl)); (case zky => k_mem); (case zk1 => k_asm); (case zk2 => k_asm); (case zk3 => k_asm); (case zk5 => k_asm); (case zk6 => exact rfl); (case zk7 => k_room); (case zk8 => ktr_units))); intro t' h' tk' F' N'; (have N' := kdrop N'); (try k_sweep); (try dsimp only))
  k_with "call ref" => (k_here; (with_reducible show wpAny _ _ (call (Value.ref 78) _) _ _ _); (k_dflt (refine' made _ ?zh1 ?zh2 ?zh3 ?zh4 ?zh5 ?zk1 ?zk2 ?zk3 ?zk4 ?zk5 ?zk6 ?zk7 ?zk8 ?_; (case zk3 => k_asm); (case zh1 => kernel_rfl); (case zh2 => k_is); (case zh3 => k_is); (case zh4 => k_is); (case zh5 => k_is); (case zk1 => k_asm); (case zk2 => k_asm); (case zk4 => k_asm); (case zk5 => k_asm); (case zk6 => exact rfl); (case zk7 => k_room); (case zk8 => ktr_units))); intro e t d h' tk' F' N' ap'; (try k_sweep); (try dsimp only))
  k_with "CompEnd" => ((k_dflt (refine LCg.CompEnd.intro (by assumption) (by assumption) _ (fun p hp => hp) (by assumption) (by lcg_src) ?_)); (try dsimp only))
  k_with "call builtin:list.append" => (k_here; (with_reducible show wpAny _ _ (call (Value.builtin _) [Value.ref _, _]) _ _ _); (k_dflt (refine' append_own ?zF ?zN ?zhm ?zho ?zha ?zhz ?_; (case zF => k_asm); (case zN => k_asm); (case zhm => k_mem); (case zha => assumption); (case zho => (intro p hp; kst_mem)); (case zhz => exact Nat.le_of_ble_eq_true rfl)); intro h' F' N'; (try k_sweep); (try dsimp only)))
  k_with "compareOp NotEq ref ref" => (k_here; k_dflt (refine ne_one (by assumption) (by k_asm) (by k_mem) (by k_mem) (by ke_room) ?_))
  refine Mine.hd ?_
  k_go0
  (all_goals try k_fold)
  (k_with "pyIter ref" => k_search (fun _ => True))
  k_steps
end
end
end Mine
end

end
theorem PySem.Challenge.cw_ko0015_01_holds : PySem.Challenge.rw_ko0015_01.Holds :=
  Mine.law_holds
